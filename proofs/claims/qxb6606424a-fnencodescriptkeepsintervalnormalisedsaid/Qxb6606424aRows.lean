/-
  No cell of these rows narrows 'for every input' (looked for: loops, veiled, ifaces, maps, wideKeys, modest, calm, conditions, laid).
  DERIVED. THE GIVEN ROWS OF THIS SEAT. 3 by the template 'for every input the law returns true; each argument reads behind the call as it read before'; 0 by the template 'total and deterministic' (their statements: Qxb6606424aTotals.lean).
  GIVEN WITH THE SEED: the statements are not yours to turn. If you find one false, say at which input.
  Laid BY PROGRAM, IN A SANDBOX (cutbox-rows.mjs): the forced cells as the released guide's own fill.sh prints them over the translation 7357629c313b940f… (all of the seat's roots in one cut). By AI agents, Wed Nov 11 2026. No macro, syntax, notation, axiom, sorry.
-/
import Derived.Test.Qxb6606424aChecked
import GoSem.Claim
import GoSem.ClaimJoined
import GoSem.ClaimMapViews
import Derived.JoinedTies
import Derived.KernelRfl
namespace Go.Proofs.Qxb6606424a
/- THE CELL 'sum', in the pinned program and in every row, IS THE sha256 OF THE DUMP (.gsa) THAT Qxb6606424aProg.lean LOADS. Nothing in Lean hashes anything: it is a label: what it is worth is what the hold of that sum in a sandbox is worth. -/
noncomputable def Try.pinned : Pinned := { name := "qxb6606424a", sum := "7357629c313b940f36558c63a0b9645c2333c550448152cb590199cb48b936ff", checked := Try.checked }
namespace Rows
def none {H : Type} : Left H := { results := [], args := [] }

/-- 'zzlaws_internal_squeeze_b1.FnEncodeMatchesIntervalModel': WHATEVER THE INPUT: true; the input reads as it did. -/
def fnEncodeMatchesIntervalModelSpec : ChangeSpec := { name := "fnEncodeMatchesIntervalModel", fn := fun _ => fun
  | [d1, d2, d3, d4, d5] => { results := [.lit (.bool true)], args := [d1, d2, d3, d4, d5] }
  | _ => none }
def fnEncodeMatchesIntervalModelRow : OpenClaim := { program := "qxb6606424a", sum := "7357629c313b940f36558c63a0b9645c2333c550448152cb590199cb48b936ff", func := "example.com/haversack/haversack/zzlaws_internal_squeeze_b1.FnEncodeMatchesIntervalModel", spec := "fnEncodeMatchesIntervalModel", apart := false }
def FnEncodeMatchesIntervalModelSaid : Prop := fnEncodeMatchesIntervalModelRow.holds Try.pinned (OpenSpec.ofChange fnEncodeMatchesIntervalModelSpec)

/-- ITS FALSE NEIGHBOUR: 'it returns false'. Refute it at one input. -/
def fnEncodeMatchesIntervalModelWrong : ChangeSpec := { name := "fnEncodeMatchesIntervalModel", fn := fun _ => fun
  | [d1, d2, d3, d4, d5] => { results := [.lit (.bool false)], args := [d1, d2, d3, d4, d5] }
  | _ => none }
def FnEncodeMatchesIntervalModelWrongFalsely : Prop := fnEncodeMatchesIntervalModelRow.holds Try.pinned (OpenSpec.ofChange fnEncodeMatchesIntervalModelWrong)

/-- 'zzlaws_internal_squeeze_b1.FnEncodeSplitsIntervalWithoutGap': WHATEVER THE INPUT: true; the input reads as it did. -/
def fnEncodeSplitsIntervalWithoutGapSpec : ChangeSpec := { name := "fnEncodeSplitsIntervalWithoutGap", fn := fun _ => fun
  | [d1, d2, d3, d4, d5] => { results := [.lit (.bool true)], args := [d1, d2, d3, d4, d5] }
  | _ => none }
def fnEncodeSplitsIntervalWithoutGapRow : OpenClaim := { program := "qxb6606424a", sum := "7357629c313b940f36558c63a0b9645c2333c550448152cb590199cb48b936ff", func := "example.com/haversack/haversack/zzlaws_internal_squeeze_b1.FnEncodeSplitsIntervalWithoutGap", spec := "fnEncodeSplitsIntervalWithoutGap", apart := false }
def FnEncodeSplitsIntervalWithoutGapSaid : Prop := fnEncodeSplitsIntervalWithoutGapRow.holds Try.pinned (OpenSpec.ofChange fnEncodeSplitsIntervalWithoutGapSpec)

/-- ITS FALSE NEIGHBOUR: 'it returns false'. Refute it at one input. -/
def fnEncodeSplitsIntervalWithoutGapWrong : ChangeSpec := { name := "fnEncodeSplitsIntervalWithoutGap", fn := fun _ => fun
  | [d1, d2, d3, d4, d5] => { results := [.lit (.bool false)], args := [d1, d2, d3, d4, d5] }
  | _ => none }
def FnEncodeSplitsIntervalWithoutGapWrongFalsely : Prop := fnEncodeSplitsIntervalWithoutGapRow.holds Try.pinned (OpenSpec.ofChange fnEncodeSplitsIntervalWithoutGapWrong)

/-- 'zzlaws_internal_squeeze_b1.FnEncodeScriptKeepsIntervalNormalised': WHATEVER THE INPUT: true; the input reads as it did. -/
def fnEncodeScriptKeepsIntervalNormalisedSpec : ChangeSpec := { name := "fnEncodeScriptKeepsIntervalNormalised", fn := fun _ => fun
  | [d1, d2, d3, d4] => { results := [.lit (.bool true)], args := [d1, d2, d3, d4] }
  | _ => none }
def fnEncodeScriptKeepsIntervalNormalisedRow : OpenClaim := { program := "qxb6606424a", sum := "7357629c313b940f36558c63a0b9645c2333c550448152cb590199cb48b936ff", func := "example.com/haversack/haversack/zzlaws_internal_squeeze_b1.FnEncodeScriptKeepsIntervalNormalised", spec := "fnEncodeScriptKeepsIntervalNormalised", apart := false }
def FnEncodeScriptKeepsIntervalNormalisedSaid : Prop := fnEncodeScriptKeepsIntervalNormalisedRow.holds Try.pinned (OpenSpec.ofChange fnEncodeScriptKeepsIntervalNormalisedSpec)

/-- ITS FALSE NEIGHBOUR: 'it returns false'. Refute it at one input. -/
def fnEncodeScriptKeepsIntervalNormalisedWrong : ChangeSpec := { name := "fnEncodeScriptKeepsIntervalNormalised", fn := fun _ => fun
  | [d1, d2, d3, d4] => { results := [.lit (.bool false)], args := [d1, d2, d3, d4] }
  | _ => none }
def FnEncodeScriptKeepsIntervalNormalisedWrongFalsely : Prop := fnEncodeScriptKeepsIntervalNormalisedRow.holds Try.pinned (OpenSpec.ofChange fnEncodeScriptKeepsIntervalNormalisedWrong)

end Rows
end Go.Proofs.Qxb6606424a
