import Derived.Test.Qxb6003663aRows
import Derived.WalkKit
import Derived.WalkSpells
import Derived.WalkLawsBesides
namespace Go.Proofs.Qxb6003663a
open Go.RowKit

/-- min (x, c) -/
def sat (c x : Int) : Int := if c < x then c else x

theorem ret_int {k : IntKind} {a b : Int} (h : a = b) : Ending.returned (.int k a) = .returned (.int k b) := by rw [h]

set_option maxHeartbeats 400000 in
theorem satAdd_any (a b c : Int) (w : World) (h0 : 0 ≤ a) (h1 : a ≤ c) (h2 : 0 ≤ b) (h3 : b ≤ c) (h4 : c ≤ 9223372036854775807) :
    Calls Try.prog 34 #[.int .i64 a, .int .i64 b, .int .i64 c] w fun e w' => e = .returned (.int .i64 (sat c (a + b))) ∧ w' = w := by
  by_cases h : c - b < a
  · go_enter Try.func34, Try.ntmps34
    go_wp2
    go_ret
    exact ⟨ret_int (by unfold sat; rw [if_pos (by omega)]), rfl⟩
  · go_enter Try.func34, Try.ntmps34
    go_wp2
    go_ret
    exact ⟨ret_int (by unfold sat; rw [if_neg (by omega)]), rfl⟩

end Go.Proofs.Qxb6003663a
