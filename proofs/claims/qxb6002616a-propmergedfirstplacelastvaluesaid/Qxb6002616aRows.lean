/-
  No cell of these rows narrows 'for every input' (looked for: loops, veiled, ifaces, maps, wideKeys, modest, calm, conditions, laid).
  DERIVED. THE GIVEN ROWS OF THIS SEAT. 1 by the template 'for every input the law returns true; each argument reads behind the call as it read before'; 0 by the template 'total and deterministic' (their statements: Qxb6002616aTotals.lean).
  GIVEN WITH THE SEED: the statements are not yours to turn. If you find one false, say at which input.
  Laid BY PROGRAM, IN A SANDBOX (cutbox-rows.mjs): the forced cells as the released guide's own fill.sh prints them over the translation ec36b4ce35e2b168… (all of the seat's roots in one cut). By AI agents, Wed Nov 11 2026. No macro, syntax, notation, axiom, sorry.
-/
import Derived.Test.Qxb6002616aChecked
import GoSem.Claim
import GoSem.ClaimJoined
import GoSem.ClaimMapViews
import Derived.JoinedTies
import Derived.KernelRfl
namespace Go.Proofs.Qxb6002616a
/- THE CELL 'sum', in the pinned program and in every row, IS THE sha256 OF THE DUMP (.gsa) THAT Qxb6002616aProg.lean LOADS. Nothing in Lean hashes anything: it is a label: what it is worth is what the hold of that sum in a sandbox is worth. -/
noncomputable def Try.pinned : Pinned := { name := "qxb6002616a", sum := "ec36b4ce35e2b1684d866dac301358f2195ecb8dadb4d20a66d45e7d372f8345", checked := Try.checked }
namespace Rows
def none {H : Type} : Left H := { results := [], args := [] }

/-- 'zzlaws_internal_sfv_c1.PropMergedFirstPlaceLastValue': WHATEVER THE INPUT: true; the input reads as it did. -/
def propMergedFirstPlaceLastValueSpec : ChangeSpec := { name := "propMergedFirstPlaceLastValue", fn := fun _ => fun
  | [d] => { results := [.lit (.bool true)], args := [d] }
  | _ => none }
def propMergedFirstPlaceLastValueRow : OpenClaim := { program := "qxb6002616a", sum := "ec36b4ce35e2b1684d866dac301358f2195ecb8dadb4d20a66d45e7d372f8345", func := "example.com/countersign/countersign/zzlaws_internal_sfv_c1.PropMergedFirstPlaceLastValue", spec := "propMergedFirstPlaceLastValue", unfollowed := true, recurses := true, apart := false }
def PropMergedFirstPlaceLastValueSaid : Prop := propMergedFirstPlaceLastValueRow.holds Try.pinned (OpenSpec.ofChange propMergedFirstPlaceLastValueSpec)

/-- ITS FALSE NEIGHBOUR: 'it returns false'. Refute it at one input. -/
def propMergedFirstPlaceLastValueWrong : ChangeSpec := { name := "propMergedFirstPlaceLastValue", fn := fun _ => fun
  | [d] => { results := [.lit (.bool false)], args := [d] }
  | _ => none }
def PropMergedFirstPlaceLastValueWrongFalsely : Prop := propMergedFirstPlaceLastValueRow.holds Try.pinned (OpenSpec.ofChange propMergedFirstPlaceLastValueWrong)

end Rows
end Go.Proofs.Qxb6002616a
