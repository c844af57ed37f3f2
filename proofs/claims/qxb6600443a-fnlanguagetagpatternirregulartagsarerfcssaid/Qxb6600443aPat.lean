import Derived.Test.Qxb6600443aRows
import Derived.WalkKit
import Derived.WalkSpells
import Derived.WalkLawsBesides
import Derived.Deep.LoopGhost
import Derived.Deep.DeepCutAuto
import Derived.Deep.DeepMust
namespace Go.Proofs.Qxb6600443a
open Go.RowKit
set_option linter.unusedVariables false
set_option linter.unusedSimpArgs false

theorem hid {p : Prop} (h : p) : Hid p := h

/-- the pattern's bytes -/
def patL : List UInt8 := [94, 40, 63, 58, 40, 63, 58, 91, 97, 45, 122, 93, 123, 50, 44, 51, 125, 40, 63, 58, 45, 91, 97, 45, 122, 93, 123, 51, 125, 41, 123, 48, 44, 51, 125, 124, 91, 97, 45, 122, 93, 123, 52, 44, 56, 125, 41, 40, 63, 58, 45, 91, 97, 45, 122, 93, 123, 52, 125, 41, 63, 40, 63, 58, 45, 40, 63, 58, 91, 97, 45, 122, 93, 123, 50, 125, 124, 91, 48, 45, 57, 93, 123, 51, 125, 41, 41, 63, 40, 63, 58, 45, 40, 63, 58, 91, 97, 45, 122, 48, 45, 57, 93, 123, 53, 44, 56, 125, 124, 91, 48, 45, 57, 93, 91, 97, 45, 122, 48, 45, 57, 93, 123, 51, 125, 41, 41, 42, 40, 63, 58, 45, 91, 48, 45, 57, 97, 45, 119, 121, 122, 93, 40, 63, 58, 45, 91, 97, 45, 122, 48, 45, 57, 93, 123, 50, 44, 56, 125, 41, 43, 41, 42, 40, 63, 58, 45, 120, 40, 63, 58, 45, 91, 97, 45, 122, 48, 45, 57, 93, 123, 49, 44, 56, 125, 41, 43, 41, 63, 124, 120, 40, 63, 58, 45, 91, 97, 45, 122, 48, 45, 57, 93, 123, 49, 44, 56, 125, 41, 43, 124, 101, 110, 45, 103, 98, 45, 111, 101, 100, 124, 105, 45, 97, 109, 105, 124, 105, 45, 98, 110, 110, 124, 105, 45, 100, 101, 102, 97, 117, 108, 116, 124, 105, 45, 101, 110, 111, 99, 104, 105, 97, 110, 124, 105, 45, 104, 97, 107, 124, 105, 45, 107, 108, 105, 110, 103, 111, 110, 124, 105, 45, 108, 117, 120, 124, 105, 45, 109, 105, 110, 103, 111, 124, 105, 45, 110, 97, 118, 97, 106, 111, 124, 105, 45, 112, 119, 110, 124, 105, 45, 116, 97, 111, 124, 105, 45, 116, 97, 121, 124, 105, 45, 116, 115, 117, 124, 115, 103, 110, 45, 98, 101, 45, 102, 114, 124, 115, 103, 110, 45, 98, 101, 45, 110, 108, 124, 115, 103, 110, 45, 99, 104, 45, 100, 101, 41, 36]
def pat : ByteArray := ⟨patL.toArray⟩

set_option maxRecDepth 100000 in
set_option maxHeartbeats 1000000 in
theorem pattern_any (w : World) : Calls Try.prog 13 #[] w fun e w' => e = .returned (.string pat) ∧ w' = w := by
  go_enter Try.func13, Try.ntmps13
  go_wp2
  go_ret
  exact ⟨by kernel_rfl, rfl⟩

set_option maxHeartbeats 1000000 in
theorem zzpattern_any (w : World) : Calls Try.prog 7 #[] w fun e w' => e = .returned (.string pat) ∧ w' = w := by
  go_enter Try.func7, Try.ntmps7
  go_wp2_with (go_at_call 13; refine (pattern_any _).mono ?_; rintro e w' ⟨rfl, rfl⟩)
  go_ret
  exact ⟨rfl, rfl⟩

end Go.Proofs.Qxb6600443a
