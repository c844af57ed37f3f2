import Derived.Test.Qxb6003663aCPlain
import Derived.Test.Qxb6003663aState
namespace Go.Proofs.Qxb6003663a
open Go.RowKit
set_option linter.unusedVariables false
set_option linter.unusedSimpArgs false

theorem quo_lt {a b c : Int} (hb : 0 < b) (h : c / b < a) : c < a * b := by
  have h1 := Int.lt_mul_of_ediv_lt hb h
  rwa [Int.mul_comm] at h1 ⊢
theorem quo_ge {a b c : Int} (hb : 0 < b) (h : ¬ c / b < a) : a * b ≤ c := Int.mul_le_of_le_ediv hb (by omega)

set_option maxHeartbeats 400000 in
theorem satMul_q {a b c : Int} {w : World} (ha : InC c a) (hb : 0 ≤ b) (hb2 : b ≤ 9223372036854775807) (hc1 : 1 ≤ c) (hc : c ≤ 9223372036854775807) :
    Calls Try.prog 35 #[.int .i64 a, .int .i64 b, .int .i64 c] w fun e w' => e = .returned (.int .i64 (sat c (a * b))) ∧ w' = w := by
  obtain ⟨a0, a1⟩ := ha
  by_cases h0 : b ≤ 0
  · have hz : b = 0 := by omega
    subst hz
    go_enter Try.func35, Try.ntmps35
    go_wp2
    go_ret
    exact ⟨ret_int (by unfold sat; simp; omega), rfl⟩
  · by_cases h : c / b < a
    · have h1 := hid (quo_lt (by omega) h)
      go_enter Try.func35, Try.ntmps35
      go_wp2
      go_ret
      exact ⟨ret_int (by unfold sat; rw [if_pos h1.out]), rfl⟩
    · have h1 := quo_ge (by omega) h
      have h2 : 0 ≤ a * b := Int.mul_nonneg a0 hb
      go_enter Try.func35, Try.ntmps35
      go_wp2
      go_ret
      exact ⟨ret_int (by unfold sat; rw [if_neg (by omega)]), rfl⟩

set_option maxHeartbeats 400000 in
theorem mul_q {S : Nat} {lim a b : Int} {w : World} (hc2 : w.cell? ⟨S, 2, none⟩ = some (.int .i64 lim)) (ha : 0 ≤ a) (hb : 0 < b) (hb2 : b ≤ 9223372036854775807) (h0 : 0 ≤ lim) (hc : lim + 1 ≤ 9223372036854775807) :
    Calls Try.prog 42 #[.pointer (some ⟨S, 0, none⟩), .int .i64 a, .int .i64 b] w fun e w' => e = .returned (.int .i64 (sat (lim + 1) (a * b))) ∧ w' = w := by
  by_cases h : (lim + 1) / b < a
  · have h1 := hid (quo_lt (by omega) h)
    go_enter Try.func42, Try.ntmps42
    go_wp2
    go_ret
    exact ⟨ret_int (by unfold sat; rw [if_pos h1.out]), rfl⟩
  · have h1 := quo_ge (by omega) h
    have h2 : 0 ≤ a * b := Int.mul_nonneg ha (by omega)
    go_enter Try.func42, Try.ntmps42
    go_wp2
    go_ret
    exact ⟨ret_int (by unfold sat; rw [if_neg (by omega)]), rfl⟩

end Go.Proofs.Qxb6003663a
