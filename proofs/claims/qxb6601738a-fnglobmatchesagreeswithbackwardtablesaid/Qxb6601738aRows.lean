/-
  No cell of these rows narrows 'for every input' (looked for: loops, veiled, ifaces, maps, wideKeys, modest, calm, conditions, laid).
  DERIVED. THE GIVEN ROWS OF THIS SEAT. 6 by the template 'for every input the law returns true; each argument reads behind the call as it read before'; 0 by the template 'total and deterministic' (their statements: Qxb6601738aTotals.lean).
  GIVEN WITH THE SEED: the statements are not yours to turn. If you find one false, say at which input.
  Laid BY PROGRAM, IN A SANDBOX (cutbox-rows.mjs): the forced cells as the released guide's own fill.sh prints them over the translation f5cba8e4831c9545… (all of the seat's roots in one cut). By AI agents, Wed Nov 11 2026. No macro, syntax, notation, axiom, sorry.
-/
import Derived.Test.Qxb6601738aChecked
import GoSem.Claim
import GoSem.ClaimJoined
import GoSem.ClaimMapViews
import Derived.JoinedTies
import Derived.KernelRfl
namespace Go.Proofs.Qxb6601738a
/- THE CELL 'sum', in the pinned program and in every row, IS THE sha256 OF THE DUMP (.gsa) THAT Qxb6601738aProg.lean LOADS. Nothing in Lean hashes anything: it is a label: what it is worth is what the hold of that sum in a sandbox is worth. -/
noncomputable def Try.pinned : Pinned := { name := "qxb6601738a", sum := "f5cba8e4831c9545e3ca6055c1b36a567f1b376e1dc76c9cbd9e82b1abdf33d1", checked := Try.checked }
namespace Rows
def none {H : Type} : Left H := { results := [], args := [] }

/-- 'zzlaws_gitrepo_b1.FnAlternateEndDependsOnlyOnTextUpToIt': WHATEVER THE INPUT: true; the input reads as it did. -/
def fnAlternateEndDependsOnlyOnTextUpToItSpec : ChangeSpec := { name := "fnAlternateEndDependsOnlyOnTextUpToIt", fn := fun _ => fun
  | [d1, d2, d3] => { results := [.lit (.bool true)], args := [d1, d2, d3] }
  | _ => none }
def fnAlternateEndDependsOnlyOnTextUpToItRow : OpenClaim := { program := "qxb6601738a", sum := "f5cba8e4831c9545e3ca6055c1b36a567f1b376e1dc76c9cbd9e82b1abdf33d1", func := "example.com/stratagraph/stratagraph/zzlaws_gitrepo_b1.FnAlternateEndDependsOnlyOnTextUpToIt", spec := "fnAlternateEndDependsOnlyOnTextUpToIt", inPlace := ["internal/bytealg.IndexByteString"], apart := false }
def FnAlternateEndDependsOnlyOnTextUpToItSaid : Prop := fnAlternateEndDependsOnlyOnTextUpToItRow.holds Try.pinned (OpenSpec.ofChange fnAlternateEndDependsOnlyOnTextUpToItSpec)

/-- ITS FALSE NEIGHBOUR: 'it returns false'. Refute it at one input. -/
def fnAlternateEndDependsOnlyOnTextUpToItWrong : ChangeSpec := { name := "fnAlternateEndDependsOnlyOnTextUpToIt", fn := fun _ => fun
  | [d1, d2, d3] => { results := [.lit (.bool false)], args := [d1, d2, d3] }
  | _ => none }
def FnAlternateEndDependsOnlyOnTextUpToItWrongFalsely : Prop := fnAlternateEndDependsOnlyOnTextUpToItRow.holds Try.pinned (OpenSpec.ofChange fnAlternateEndDependsOnlyOnTextUpToItWrong)

/-- 'zzlaws_gitrepo_b1.FnSetDateAgreesWithCalendarModel': WHATEVER THE INPUT: true; the input reads as it did. -/
def fnSetDateAgreesWithCalendarModelSpec : ChangeSpec := { name := "fnSetDateAgreesWithCalendarModel", fn := fun _ => fun
  | [d1, d2, d3, d4, d5, d6] => { results := [.lit (.bool true)], args := [d1, d2, d3, d4, d5, d6] }
  | _ => none }
def fnSetDateAgreesWithCalendarModelRow : OpenClaim := { program := "qxb6601738a", sum := "f5cba8e4831c9545e3ca6055c1b36a567f1b376e1dc76c9cbd9e82b1abdf33d1", func := "example.com/stratagraph/stratagraph/zzlaws_gitrepo_b1.FnSetDateAgreesWithCalendarModel", spec := "fnSetDateAgreesWithCalendarModel", apart := false }
def FnSetDateAgreesWithCalendarModelSaid : Prop := fnSetDateAgreesWithCalendarModelRow.holds Try.pinned (OpenSpec.ofChange fnSetDateAgreesWithCalendarModelSpec)

/-- ITS FALSE NEIGHBOUR: 'it returns false'. Refute it at one input. -/
def fnSetDateAgreesWithCalendarModelWrong : ChangeSpec := { name := "fnSetDateAgreesWithCalendarModel", fn := fun _ => fun
  | [d1, d2, d3, d4, d5, d6] => { results := [.lit (.bool false)], args := [d1, d2, d3, d4, d5, d6] }
  | _ => none }
def FnSetDateAgreesWithCalendarModelWrongFalsely : Prop := fnSetDateAgreesWithCalendarModelRow.holds Try.pinned (OpenSpec.ofChange fnSetDateAgreesWithCalendarModelWrong)

/-- 'zzlaws_gitrepo_b1.FnSetDateTwiceIsOnce': WHATEVER THE INPUT: true; the input reads as it did. -/
def fnSetDateTwiceIsOnceSpec : ChangeSpec := { name := "fnSetDateTwiceIsOnce", fn := fun _ => fun
  | [d1, d2, d3, d4, d5, d6] => { results := [.lit (.bool true)], args := [d1, d2, d3, d4, d5, d6] }
  | _ => none }
def fnSetDateTwiceIsOnceRow : OpenClaim := { program := "qxb6601738a", sum := "f5cba8e4831c9545e3ca6055c1b36a567f1b376e1dc76c9cbd9e82b1abdf33d1", func := "example.com/stratagraph/stratagraph/zzlaws_gitrepo_b1.FnSetDateTwiceIsOnce", spec := "fnSetDateTwiceIsOnce", apart := false }
def FnSetDateTwiceIsOnceSaid : Prop := fnSetDateTwiceIsOnceRow.holds Try.pinned (OpenSpec.ofChange fnSetDateTwiceIsOnceSpec)

/-- ITS FALSE NEIGHBOUR: 'it returns false'. Refute it at one input. -/
def fnSetDateTwiceIsOnceWrong : ChangeSpec := { name := "fnSetDateTwiceIsOnce", fn := fun _ => fun
  | [d1, d2, d3, d4, d5, d6] => { results := [.lit (.bool false)], args := [d1, d2, d3, d4, d5, d6] }
  | _ => none }
def FnSetDateTwiceIsOnceWrongFalsely : Prop := fnSetDateTwiceIsOnceRow.holds Try.pinned (OpenSpec.ofChange fnSetDateTwiceIsOnceWrong)

/-- 'zzlaws_gitrepo_b1.FnSetDateLaterNowRefusesNoMore': WHATEVER THE INPUT: true; the input reads as it did. -/
def fnSetDateLaterNowRefusesNoMoreSpec : ChangeSpec := { name := "fnSetDateLaterNowRefusesNoMore", fn := fun _ => fun
  | [d1, d2, d3, d4, d5, d6, d7] => { results := [.lit (.bool true)], args := [d1, d2, d3, d4, d5, d6, d7] }
  | _ => none }
def fnSetDateLaterNowRefusesNoMoreRow : OpenClaim := { program := "qxb6601738a", sum := "f5cba8e4831c9545e3ca6055c1b36a567f1b376e1dc76c9cbd9e82b1abdf33d1", func := "example.com/stratagraph/stratagraph/zzlaws_gitrepo_b1.FnSetDateLaterNowRefusesNoMore", spec := "fnSetDateLaterNowRefusesNoMore", apart := false }
def FnSetDateLaterNowRefusesNoMoreSaid : Prop := fnSetDateLaterNowRefusesNoMoreRow.holds Try.pinned (OpenSpec.ofChange fnSetDateLaterNowRefusesNoMoreSpec)

/-- ITS FALSE NEIGHBOUR: 'it returns false'. Refute it at one input. -/
def fnSetDateLaterNowRefusesNoMoreWrong : ChangeSpec := { name := "fnSetDateLaterNowRefusesNoMore", fn := fun _ => fun
  | [d1, d2, d3, d4, d5, d6, d7] => { results := [.lit (.bool false)], args := [d1, d2, d3, d4, d5, d6, d7] }
  | _ => none }
def FnSetDateLaterNowRefusesNoMoreWrongFalsely : Prop := fnSetDateLaterNowRefusesNoMoreRow.holds Try.pinned (OpenSpec.ofChange fnSetDateLaterNowRefusesNoMoreWrong)

/-- 'zzlaws_gitrepo_b1.FnGlobMatchesAgreesWithBackwardTable': WHATEVER THE INPUT: true; the input reads as it did. -/
def fnGlobMatchesAgreesWithBackwardTableSpec : ChangeSpec := { name := "fnGlobMatchesAgreesWithBackwardTable", fn := fun _ => fun
  | [d1, d2, d3, d4, d5, d6, d7] => { results := [.lit (.bool true)], args := [d1, d2, d3, d4, d5, d6, d7] }
  | _ => none }
def fnGlobMatchesAgreesWithBackwardTableRow : OpenClaim := { program := "qxb6601738a", sum := "f5cba8e4831c9545e3ca6055c1b36a567f1b376e1dc76c9cbd9e82b1abdf33d1", func := "example.com/stratagraph/stratagraph/zzlaws_gitrepo_b1.FnGlobMatchesAgreesWithBackwardTable", spec := "fnGlobMatchesAgreesWithBackwardTable", recurses := true, apart := false }
def FnGlobMatchesAgreesWithBackwardTableSaid : Prop := fnGlobMatchesAgreesWithBackwardTableRow.holds Try.pinned (OpenSpec.ofChange fnGlobMatchesAgreesWithBackwardTableSpec)

/-- ITS FALSE NEIGHBOUR: 'it returns false'. Refute it at one input. -/
def fnGlobMatchesAgreesWithBackwardTableWrong : ChangeSpec := { name := "fnGlobMatchesAgreesWithBackwardTable", fn := fun _ => fun
  | [d1, d2, d3, d4, d5, d6, d7] => { results := [.lit (.bool false)], args := [d1, d2, d3, d4, d5, d6, d7] }
  | _ => none }
def FnGlobMatchesAgreesWithBackwardTableWrongFalsely : Prop := fnGlobMatchesAgreesWithBackwardTableRow.holds Try.pinned (OpenSpec.ofChange fnGlobMatchesAgreesWithBackwardTableWrong)

/-- 'zzlaws_gitrepo_b1.FnFoldingGlobIgnoresCaseOfText': WHATEVER THE INPUT: true; the input reads as it did. -/
def fnFoldingGlobIgnoresCaseOfTextSpec : ChangeSpec := { name := "fnFoldingGlobIgnoresCaseOfText", fn := fun _ => fun
  | [d1, d2, d3, d4, d5, d6, d7] => { results := [.lit (.bool true)], args := [d1, d2, d3, d4, d5, d6, d7] }
  | _ => none }
def fnFoldingGlobIgnoresCaseOfTextRow : OpenClaim := { program := "qxb6601738a", sum := "f5cba8e4831c9545e3ca6055c1b36a567f1b376e1dc76c9cbd9e82b1abdf33d1", func := "example.com/stratagraph/stratagraph/zzlaws_gitrepo_b1.FnFoldingGlobIgnoresCaseOfText", spec := "fnFoldingGlobIgnoresCaseOfText", recurses := true, apart := false }
def FnFoldingGlobIgnoresCaseOfTextSaid : Prop := fnFoldingGlobIgnoresCaseOfTextRow.holds Try.pinned (OpenSpec.ofChange fnFoldingGlobIgnoresCaseOfTextSpec)

/-- ITS FALSE NEIGHBOUR: 'it returns false'. Refute it at one input. -/
def fnFoldingGlobIgnoresCaseOfTextWrong : ChangeSpec := { name := "fnFoldingGlobIgnoresCaseOfText", fn := fun _ => fun
  | [d1, d2, d3, d4, d5, d6, d7] => { results := [.lit (.bool false)], args := [d1, d2, d3, d4, d5, d6, d7] }
  | _ => none }
def FnFoldingGlobIgnoresCaseOfTextWrongFalsely : Prop := fnFoldingGlobIgnoresCaseOfTextRow.holds Try.pinned (OpenSpec.ofChange fnFoldingGlobIgnoresCaseOfTextWrong)

end Rows
end Go.Proofs.Qxb6601738a
