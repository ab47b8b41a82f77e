/-
  No cell of these rows narrows 'for every input' (looked for: loops, veiled, ifaces, maps, wideKeys, modest, calm, conditions, laid).
  DERIVED. THE GIVEN ROWS OF THIS SEAT. 10 by the template 'for every input the law returns true; each argument reads behind the call as it read before'; 0 by the template 'total and deterministic' (their statements: Qxb6001215aTotals.lean).
  GIVEN WITH THE SEED: the statements are not yours to turn. If you find one false, say at which input.
  Laid BY PROGRAM, IN A SANDBOX (cutbox-rows.mjs): the forced cells as the released guide's own fill.sh prints them over the translation b17fae1a8d94004c… (all of the seat's roots in one cut). By AI agents, Wed Nov 11 2026. No macro, syntax, notation, axiom, sorry.
-/
import Derived.Test.Qxb6001215aChecked
import GoSem.Claim
import GoSem.ClaimJoined
import GoSem.ClaimMapViews
import Derived.JoinedTies
import Derived.KernelRfl
namespace Go.Proofs.Qxb6001215a
/- THE CELL 'sum', in the pinned program and in every row, IS THE sha256 OF THE DUMP (.gsa) THAT Qxb6001215aProg.lean LOADS. Nothing in Lean hashes anything: it is a label: what it is worth is what the hold of that sum in a sandbox is worth. -/
noncomputable def Try.pinned : Pinned := { name := "qxb6001215a", sum := "b17fae1a8d94004c3a09fb0845ce6cfd8c331353648b35fabb942d9a519d7d1b", checked := Try.checked }
namespace Rows
def none {H : Type} : Left H := { results := [], args := [] }

/-- 'zzlaws_internal_command_b1.FnMatchGlobQuotedIsEquality': WHATEVER THE INPUT: true; the input reads as it did. -/
def fnMatchGlobQuotedIsEqualitySpec : ChangeSpec := { name := "fnMatchGlobQuotedIsEquality", fn := fun _ => fun
  | [d1, d2] => { results := [.lit (.bool true)], args := [d1, d2] }
  | _ => none }
def fnMatchGlobQuotedIsEqualityRow : OpenClaim := { program := "qxb6001215a", sum := "b17fae1a8d94004c3a09fb0845ce6cfd8c331353648b35fabb942d9a519d7d1b", func := "example.com/respite/respite/zzlaws_internal_command_b1.FnMatchGlobQuotedIsEquality", spec := "fnMatchGlobQuotedIsEquality", apart := false }
def FnMatchGlobQuotedIsEqualitySaid : Prop := fnMatchGlobQuotedIsEqualityRow.holds Try.pinned (OpenSpec.ofChange fnMatchGlobQuotedIsEqualitySpec)

/-- ITS FALSE NEIGHBOUR: 'it returns false'. Refute it at one input. -/
def fnMatchGlobQuotedIsEqualityWrong : ChangeSpec := { name := "fnMatchGlobQuotedIsEquality", fn := fun _ => fun
  | [d1, d2] => { results := [.lit (.bool false)], args := [d1, d2] }
  | _ => none }
def FnMatchGlobQuotedIsEqualityWrongFalsely : Prop := fnMatchGlobQuotedIsEqualityRow.holds Try.pinned (OpenSpec.ofChange fnMatchGlobQuotedIsEqualityWrong)

/-- 'zzlaws_internal_command_b1.FnMatchGlobStarsFindText': WHATEVER THE INPUT: true; the input reads as it did. -/
def fnMatchGlobStarsFindTextSpec : ChangeSpec := { name := "fnMatchGlobStarsFindText", fn := fun _ => fun
  | [d1, d2] => { results := [.lit (.bool true)], args := [d1, d2] }
  | _ => none }
def fnMatchGlobStarsFindTextRow : OpenClaim := { program := "qxb6001215a", sum := "b17fae1a8d94004c3a09fb0845ce6cfd8c331353648b35fabb942d9a519d7d1b", func := "example.com/respite/respite/zzlaws_internal_command_b1.FnMatchGlobStarsFindText", spec := "fnMatchGlobStarsFindText", apart := false }
def FnMatchGlobStarsFindTextSaid : Prop := fnMatchGlobStarsFindTextRow.holds Try.pinned (OpenSpec.ofChange fnMatchGlobStarsFindTextSpec)

/-- ITS FALSE NEIGHBOUR: 'it returns false'. Refute it at one input. -/
def fnMatchGlobStarsFindTextWrong : ChangeSpec := { name := "fnMatchGlobStarsFindText", fn := fun _ => fun
  | [d1, d2] => { results := [.lit (.bool false)], args := [d1, d2] }
  | _ => none }
def FnMatchGlobStarsFindTextWrongFalsely : Prop := fnMatchGlobStarsFindTextRow.holds Try.pinned (OpenSpec.ofChange fnMatchGlobStarsFindTextWrong)

/-- 'zzlaws_internal_command_b1.FnMatchGlobQuestionsCountBytes': WHATEVER THE INPUT: true; the input reads as it did. -/
def fnMatchGlobQuestionsCountBytesSpec : ChangeSpec := { name := "fnMatchGlobQuestionsCountBytes", fn := fun _ => fun
  | [d1, d2] => { results := [.lit (.bool true)], args := [d1, d2] }
  | _ => none }
def fnMatchGlobQuestionsCountBytesRow : OpenClaim := { program := "qxb6001215a", sum := "b17fae1a8d94004c3a09fb0845ce6cfd8c331353648b35fabb942d9a519d7d1b", func := "example.com/respite/respite/zzlaws_internal_command_b1.FnMatchGlobQuestionsCountBytes", spec := "fnMatchGlobQuestionsCountBytes", apart := false }
def FnMatchGlobQuestionsCountBytesSaid : Prop := fnMatchGlobQuestionsCountBytesRow.holds Try.pinned (OpenSpec.ofChange fnMatchGlobQuestionsCountBytesSpec)

/-- ITS FALSE NEIGHBOUR: 'it returns false'. Refute it at one input. -/
def fnMatchGlobQuestionsCountBytesWrong : ChangeSpec := { name := "fnMatchGlobQuestionsCountBytes", fn := fun _ => fun
  | [d1, d2] => { results := [.lit (.bool false)], args := [d1, d2] }
  | _ => none }
def FnMatchGlobQuestionsCountBytesWrongFalsely : Prop := fnMatchGlobQuestionsCountBytesRow.holds Try.pinned (OpenSpec.ofChange fnMatchGlobQuestionsCountBytesWrong)

/-- 'zzlaws_internal_command_b1.FnMatchSetCaretComplements': WHATEVER THE INPUT: true; the input reads as it did. -/
def fnMatchSetCaretComplementsSpec : ChangeSpec := { name := "fnMatchSetCaretComplements", fn := fun _ => fun
  | [d1, d2] => { results := [.lit (.bool true)], args := [d1, d2] }
  | _ => none }
def fnMatchSetCaretComplementsRow : OpenClaim := { program := "qxb6001215a", sum := "b17fae1a8d94004c3a09fb0845ce6cfd8c331353648b35fabb942d9a519d7d1b", func := "example.com/respite/respite/zzlaws_internal_command_b1.FnMatchSetCaretComplements", spec := "fnMatchSetCaretComplements", apart := false }
def FnMatchSetCaretComplementsSaid : Prop := fnMatchSetCaretComplementsRow.holds Try.pinned (OpenSpec.ofChange fnMatchSetCaretComplementsSpec)

/-- ITS FALSE NEIGHBOUR: 'it returns false'. Refute it at one input. -/
def fnMatchSetCaretComplementsWrong : ChangeSpec := { name := "fnMatchSetCaretComplements", fn := fun _ => fun
  | [d1, d2] => { results := [.lit (.bool false)], args := [d1, d2] }
  | _ => none }
def FnMatchSetCaretComplementsWrongFalsely : Prop := fnMatchSetCaretComplementsRow.holds Try.pinned (OpenSpec.ofChange fnMatchSetCaretComplementsWrong)

/-- 'zzlaws_internal_command_b1.FnMatchSetQuotedListIsMembership': WHATEVER THE INPUT: true; the input reads as it did. -/
def fnMatchSetQuotedListIsMembershipSpec : ChangeSpec := { name := "fnMatchSetQuotedListIsMembership", fn := fun _ => fun
  | [d1, d2, d3] => { results := [.lit (.bool true)], args := [d1, d2, d3] }
  | _ => none }
def fnMatchSetQuotedListIsMembershipRow : OpenClaim := { program := "qxb6001215a", sum := "b17fae1a8d94004c3a09fb0845ce6cfd8c331353648b35fabb942d9a519d7d1b", func := "example.com/respite/respite/zzlaws_internal_command_b1.FnMatchSetQuotedListIsMembership", spec := "fnMatchSetQuotedListIsMembership", apart := false }
def FnMatchSetQuotedListIsMembershipSaid : Prop := fnMatchSetQuotedListIsMembershipRow.holds Try.pinned (OpenSpec.ofChange fnMatchSetQuotedListIsMembershipSpec)

/-- ITS FALSE NEIGHBOUR: 'it returns false'. Refute it at one input. -/
def fnMatchSetQuotedListIsMembershipWrong : ChangeSpec := { name := "fnMatchSetQuotedListIsMembership", fn := fun _ => fun
  | [d1, d2, d3] => { results := [.lit (.bool false)], args := [d1, d2, d3] }
  | _ => none }
def FnMatchSetQuotedListIsMembershipWrongFalsely : Prop := fnMatchSetQuotedListIsMembershipRow.holds Try.pinned (OpenSpec.ofChange fnMatchSetQuotedListIsMembershipWrong)

/-- 'zzlaws_internal_command_b1.FnMatchSetRangeIsItsEnumeration': WHATEVER THE INPUT: true; the input reads as it did. -/
def fnMatchSetRangeIsItsEnumerationSpec : ChangeSpec := { name := "fnMatchSetRangeIsItsEnumeration", fn := fun _ => fun
  | [d1, d2, d3] => { results := [.lit (.bool true)], args := [d1, d2, d3] }
  | _ => none }
def fnMatchSetRangeIsItsEnumerationRow : OpenClaim := { program := "qxb6001215a", sum := "b17fae1a8d94004c3a09fb0845ce6cfd8c331353648b35fabb942d9a519d7d1b", func := "example.com/respite/respite/zzlaws_internal_command_b1.FnMatchSetRangeIsItsEnumeration", spec := "fnMatchSetRangeIsItsEnumeration", apart := false }
def FnMatchSetRangeIsItsEnumerationSaid : Prop := fnMatchSetRangeIsItsEnumerationRow.holds Try.pinned (OpenSpec.ofChange fnMatchSetRangeIsItsEnumerationSpec)

/-- ITS FALSE NEIGHBOUR: 'it returns false'. Refute it at one input. -/
def fnMatchSetRangeIsItsEnumerationWrong : ChangeSpec := { name := "fnMatchSetRangeIsItsEnumeration", fn := fun _ => fun
  | [d1, d2, d3] => { results := [.lit (.bool false)], args := [d1, d2, d3] }
  | _ => none }
def FnMatchSetRangeIsItsEnumerationWrongFalsely : Prop := fnMatchSetRangeIsItsEnumerationRow.holds Try.pinned (OpenSpec.ofChange fnMatchSetRangeIsItsEnumerationWrong)

/-- 'zzlaws_internal_command_b1.FnScanNumberReadsAnInteger': WHATEVER THE INPUT: true; the input reads as it did. -/
def fnScanNumberReadsAnIntegerSpec : ChangeSpec := { name := "fnScanNumberReadsAnInteger", fn := fun _ => fun
  | [d1, d2, d3] => { results := [.lit (.bool true)], args := [d1, d2, d3] }
  | _ => none }
def fnScanNumberReadsAnIntegerRow : OpenClaim := { program := "qxb6001215a", sum := "b17fae1a8d94004c3a09fb0845ce6cfd8c331353648b35fabb942d9a519d7d1b", func := "example.com/respite/respite/zzlaws_internal_command_b1.FnScanNumberReadsAnInteger", spec := "fnScanNumberReadsAnInteger", apart := false }
def FnScanNumberReadsAnIntegerSaid : Prop := fnScanNumberReadsAnIntegerRow.holds Try.pinned (OpenSpec.ofChange fnScanNumberReadsAnIntegerSpec)

/-- ITS FALSE NEIGHBOUR: 'it returns false'. Refute it at one input. -/
def fnScanNumberReadsAnIntegerWrong : ChangeSpec := { name := "fnScanNumberReadsAnInteger", fn := fun _ => fun
  | [d1, d2, d3] => { results := [.lit (.bool false)], args := [d1, d2, d3] }
  | _ => none }
def FnScanNumberReadsAnIntegerWrongFalsely : Prop := fnScanNumberReadsAnIntegerRow.holds Try.pinned (OpenSpec.ofChange fnScanNumberReadsAnIntegerWrong)

/-- 'zzlaws_internal_command_b1.FnScanNumberPointShiftsExponent': WHATEVER THE INPUT: true; the input reads as it did. -/
def fnScanNumberPointShiftsExponentSpec : ChangeSpec := { name := "fnScanNumberPointShiftsExponent", fn := fun _ => fun
  | [d1, d2, d3] => { results := [.lit (.bool true)], args := [d1, d2, d3] }
  | _ => none }
def fnScanNumberPointShiftsExponentRow : OpenClaim := { program := "qxb6001215a", sum := "b17fae1a8d94004c3a09fb0845ce6cfd8c331353648b35fabb942d9a519d7d1b", func := "example.com/respite/respite/zzlaws_internal_command_b1.FnScanNumberPointShiftsExponent", spec := "fnScanNumberPointShiftsExponent", apart := false }
def FnScanNumberPointShiftsExponentSaid : Prop := fnScanNumberPointShiftsExponentRow.holds Try.pinned (OpenSpec.ofChange fnScanNumberPointShiftsExponentSpec)

/-- ITS FALSE NEIGHBOUR: 'it returns false'. Refute it at one input. -/
def fnScanNumberPointShiftsExponentWrong : ChangeSpec := { name := "fnScanNumberPointShiftsExponent", fn := fun _ => fun
  | [d1, d2, d3] => { results := [.lit (.bool false)], args := [d1, d2, d3] }
  | _ => none }
def FnScanNumberPointShiftsExponentWrongFalsely : Prop := fnScanNumberPointShiftsExponentRow.holds Try.pinned (OpenSpec.ofChange fnScanNumberPointShiftsExponentWrong)

/-- 'zzlaws_internal_command_b1.FnScanNumberExponentAdds': WHATEVER THE INPUT: true; the input reads as it did. -/
def fnScanNumberExponentAddsSpec : ChangeSpec := { name := "fnScanNumberExponentAdds", fn := fun _ => fun
  | [d1, d2, d3, d4, d5] => { results := [.lit (.bool true)], args := [d1, d2, d3, d4, d5] }
  | _ => none }
def fnScanNumberExponentAddsRow : OpenClaim := { program := "qxb6001215a", sum := "b17fae1a8d94004c3a09fb0845ce6cfd8c331353648b35fabb942d9a519d7d1b", func := "example.com/respite/respite/zzlaws_internal_command_b1.FnScanNumberExponentAdds", spec := "fnScanNumberExponentAdds", apart := false }
def FnScanNumberExponentAddsSaid : Prop := fnScanNumberExponentAddsRow.holds Try.pinned (OpenSpec.ofChange fnScanNumberExponentAddsSpec)

/-- ITS FALSE NEIGHBOUR: 'it returns false'. Refute it at one input. -/
def fnScanNumberExponentAddsWrong : ChangeSpec := { name := "fnScanNumberExponentAdds", fn := fun _ => fun
  | [d1, d2, d3, d4, d5] => { results := [.lit (.bool false)], args := [d1, d2, d3, d4, d5] }
  | _ => none }
def FnScanNumberExponentAddsWrongFalsely : Prop := fnScanNumberExponentAddsRow.holds Try.pinned (OpenSpec.ofChange fnScanNumberExponentAddsWrong)

/-- 'zzlaws_internal_command_b1.FnScanNumberDigitsAreCanonical': WHATEVER THE INPUT: true; the input reads as it did. -/
def fnScanNumberDigitsAreCanonicalSpec : ChangeSpec := { name := "fnScanNumberDigitsAreCanonical", fn := fun _ => fun
  | [d1, d2, d3] => { results := [.lit (.bool true)], args := [d1, d2, d3] }
  | _ => none }
def fnScanNumberDigitsAreCanonicalRow : OpenClaim := { program := "qxb6001215a", sum := "b17fae1a8d94004c3a09fb0845ce6cfd8c331353648b35fabb942d9a519d7d1b", func := "example.com/respite/respite/zzlaws_internal_command_b1.FnScanNumberDigitsAreCanonical", spec := "fnScanNumberDigitsAreCanonical", apart := false }
def FnScanNumberDigitsAreCanonicalSaid : Prop := fnScanNumberDigitsAreCanonicalRow.holds Try.pinned (OpenSpec.ofChange fnScanNumberDigitsAreCanonicalSpec)

/-- ITS FALSE NEIGHBOUR: 'it returns false'. Refute it at one input. -/
def fnScanNumberDigitsAreCanonicalWrong : ChangeSpec := { name := "fnScanNumberDigitsAreCanonical", fn := fun _ => fun
  | [d1, d2, d3] => { results := [.lit (.bool false)], args := [d1, d2, d3] }
  | _ => none }
def FnScanNumberDigitsAreCanonicalWrongFalsely : Prop := fnScanNumberDigitsAreCanonicalRow.holds Try.pinned (OpenSpec.ofChange fnScanNumberDigitsAreCanonicalWrong)

end Rows
end Go.Proofs.Qxb6001215a
