/-
  No cell of these rows narrows 'for every input' (looked for: loops, veiled, ifaces, maps, wideKeys, modest, calm, conditions, laid).
  DERIVED. THE GIVEN ROWS OF THIS SEAT. 4 by the template 'for every input the law returns true; each argument reads behind the call as it read before'; 0 by the template 'total and deterministic' (their statements: Qxb6600443aTotals.lean).
  GIVEN WITH THE SEED: the statements are not yours to turn. If you find one false, say at which input.
  Laid BY PROGRAM, IN A SANDBOX (cutbox-rows.mjs): the forced cells as the released guide's own fill.sh prints them over the translation b9cef4eb09d4ac26… (all of the seat's roots in one cut). By AI agents, Wed Nov 11 2026. No macro, syntax, notation, axiom, sorry.
-/
import Derived.Test.Qxb6600443aChecked
import GoSem.Claim
import GoSem.ClaimJoined
import GoSem.ClaimMapViews
import Derived.JoinedTies
import Derived.KernelRfl
namespace Go.Proofs.Qxb6600443a
/- THE CELL 'sum', in the pinned program and in every row, IS THE sha256 OF THE DUMP (.gsa) THAT Qxb6600443aProg.lean LOADS. Nothing in Lean hashes anything: it is a label: what it is worth is what the hold of that sum in a sandbox is worth. -/
noncomputable def Try.pinned : Pinned := { name := "qxb6600443a", sum := "b9cef4eb09d4ac260328bc6a00d78c3b17eec9bf8c9a8e96fcd9f585d7627b92", checked := Try.checked }
namespace Rows
def none {H : Type} : Left H := { results := [], args := [] }

/-- 'zzlaws_internal_codes_b1.FnLanguageTagPatternAnchoredNonCapturing': WHATEVER THE INPUT: true; the input reads as it did. -/
def fnLanguageTagPatternAnchoredNonCapturingSpec : ChangeSpec := { name := "fnLanguageTagPatternAnchoredNonCapturing", fn := fun _ => fun
  | [] => { results := [.lit (.bool true)], args := [] }
  | _ => none }
def fnLanguageTagPatternAnchoredNonCapturingRow : OpenClaim := { program := "qxb6600443a", sum := "b9cef4eb09d4ac260328bc6a00d78c3b17eec9bf8c9a8e96fcd9f585d7627b92", func := "example.com/rightsbook/rightsbook/zzlaws_internal_codes_b1.FnLanguageTagPatternAnchoredNonCapturing", spec := "fnLanguageTagPatternAnchoredNonCapturing", apart := false }
def FnLanguageTagPatternAnchoredNonCapturingSaid : Prop := fnLanguageTagPatternAnchoredNonCapturingRow.holds Try.pinned (OpenSpec.ofChange fnLanguageTagPatternAnchoredNonCapturingSpec)

/-- ITS FALSE NEIGHBOUR: 'it returns false'. Refute it at one input. -/
def fnLanguageTagPatternAnchoredNonCapturingWrong : ChangeSpec := { name := "fnLanguageTagPatternAnchoredNonCapturing", fn := fun _ => fun
  | [] => { results := [.lit (.bool false)], args := [] }
  | _ => none }
def FnLanguageTagPatternAnchoredNonCapturingWrongFalsely : Prop := fnLanguageTagPatternAnchoredNonCapturingRow.holds Try.pinned (OpenSpec.ofChange fnLanguageTagPatternAnchoredNonCapturingWrong)

/-- 'zzlaws_internal_codes_b1.FnLanguageTagPatternIrregularTagsAreRFCs': WHATEVER THE INPUT: true; the input reads as it did. -/
def fnLanguageTagPatternIrregularTagsAreRFCsSpec : ChangeSpec := { name := "fnLanguageTagPatternIrregularTagsAreRFCs", fn := fun _ => fun
  | [] => { results := [.lit (.bool true)], args := [] }
  | _ => none }
def fnLanguageTagPatternIrregularTagsAreRFCsRow : OpenClaim := { program := "qxb6600443a", sum := "b9cef4eb09d4ac260328bc6a00d78c3b17eec9bf8c9a8e96fcd9f585d7627b92", func := "example.com/rightsbook/rightsbook/zzlaws_internal_codes_b1.FnLanguageTagPatternIrregularTagsAreRFCs", spec := "fnLanguageTagPatternIrregularTagsAreRFCs", apart := false }
def FnLanguageTagPatternIrregularTagsAreRFCsSaid : Prop := fnLanguageTagPatternIrregularTagsAreRFCsRow.holds Try.pinned (OpenSpec.ofChange fnLanguageTagPatternIrregularTagsAreRFCsSpec)

/-- ITS FALSE NEIGHBOUR: 'it returns false'. Refute it at one input. -/
def fnLanguageTagPatternIrregularTagsAreRFCsWrong : ChangeSpec := { name := "fnLanguageTagPatternIrregularTagsAreRFCs", fn := fun _ => fun
  | [] => { results := [.lit (.bool false)], args := [] }
  | _ => none }
def FnLanguageTagPatternIrregularTagsAreRFCsWrongFalsely : Prop := fnLanguageTagPatternIrregularTagsAreRFCsRow.holds Try.pinned (OpenSpec.ofChange fnLanguageTagPatternIrregularTagsAreRFCsWrong)

/-- 'zzlaws_internal_codes_b1.FnUpperLettersExactSpec': WHATEVER THE INPUT: true; the input reads as it did. -/
def fnUpperLettersExactSpecSpec : ChangeSpec := { name := "fnUpperLettersExactSpec", fn := fun _ => fun
  | [d1, d2] => { results := [.lit (.bool true)], args := [d1, d2] }
  | _ => none }
def fnUpperLettersExactSpecRow : OpenClaim := { program := "qxb6600443a", sum := "b9cef4eb09d4ac260328bc6a00d78c3b17eec9bf8c9a8e96fcd9f585d7627b92", func := "example.com/rightsbook/rightsbook/zzlaws_internal_codes_b1.FnUpperLettersExactSpec", spec := "fnUpperLettersExactSpec", unfollowed := true, recurses := true, apart := false }
def FnUpperLettersExactSpecSaid : Prop := fnUpperLettersExactSpecRow.holds Try.pinned (OpenSpec.ofChange fnUpperLettersExactSpecSpec)

/-- ITS FALSE NEIGHBOUR: 'it returns false'. Refute it at one input. -/
def fnUpperLettersExactSpecWrong : ChangeSpec := { name := "fnUpperLettersExactSpec", fn := fun _ => fun
  | [d1, d2] => { results := [.lit (.bool false)], args := [d1, d2] }
  | _ => none }
def FnUpperLettersExactSpecWrongFalsely : Prop := fnUpperLettersExactSpecRow.holds Try.pinned (OpenSpec.ofChange fnUpperLettersExactSpecWrong)

/-- 'zzlaws_internal_codes_b1.FnUpperLettersConcatenation': WHATEVER THE INPUT: true; the input reads as it did. -/
def fnUpperLettersConcatenationSpec : ChangeSpec := { name := "fnUpperLettersConcatenation", fn := fun _ => fun
  | [d1, d2] => { results := [.lit (.bool true)], args := [d1, d2] }
  | _ => none }
def fnUpperLettersConcatenationRow : OpenClaim := { program := "qxb6600443a", sum := "b9cef4eb09d4ac260328bc6a00d78c3b17eec9bf8c9a8e96fcd9f585d7627b92", func := "example.com/rightsbook/rightsbook/zzlaws_internal_codes_b1.FnUpperLettersConcatenation", spec := "fnUpperLettersConcatenation", unfollowed := true, recurses := true, apart := false }
def FnUpperLettersConcatenationSaid : Prop := fnUpperLettersConcatenationRow.holds Try.pinned (OpenSpec.ofChange fnUpperLettersConcatenationSpec)

/-- ITS FALSE NEIGHBOUR: 'it returns false'. Refute it at one input. -/
def fnUpperLettersConcatenationWrong : ChangeSpec := { name := "fnUpperLettersConcatenation", fn := fun _ => fun
  | [d1, d2] => { results := [.lit (.bool false)], args := [d1, d2] }
  | _ => none }
def FnUpperLettersConcatenationWrongFalsely : Prop := fnUpperLettersConcatenationRow.holds Try.pinned (OpenSpec.ofChange fnUpperLettersConcatenationWrong)

end Rows
end Go.Proofs.Qxb6600443a
