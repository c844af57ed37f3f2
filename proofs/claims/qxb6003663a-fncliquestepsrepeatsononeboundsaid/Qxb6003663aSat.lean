import Derived.Test.Qxb6003663aBound
namespace Go.Proofs.Qxb6003663a
open Go.RowKit
set_option linter.unusedVariables false
set_option linter.unusedSimpArgs false

def InC (c x : Int) : Prop := 0 ≤ x ∧ x ≤ c
theorem inC_sat {c x : Int} (hc : 0 ≤ c) (hx : 0 ≤ x) : InC c (sat c x) := by unfold InC sat; split <;> omega
theorem inC_add {c x y : Int} (hx : InC c x) (hy : InC c y) : InC c (sat c (x + y)) := by unfold InC at *; unfold sat; split <;> omega
theorem inC_one {c : Int} (hc : 1 ≤ c) : InC c 1 := ⟨by omega, hc⟩
theorem inC_zero {c : Int} (hc : 0 ≤ c) : InC c 0 := ⟨by omega, hc⟩
theorem sat_sat {c : Int} (hc : 0 ≤ c) {a b : Nat} : sat c (sat c (a : Int) + sat c (b : Int)) = sat c ((a + b : Nat) : Int) := by unfold sat; split <;> split <;> split <;> (try split) <;> omega
theorem sat_zero {c : Int} (hc : 0 ≤ c) : sat c 0 = 0 := by unfold sat; split <;> omega
theorem sat_one {c : Int} (hc : 1 ≤ c) : sat c 1 = 1 := by unfold sat; split <;> omega
theorem inC_nat {c : Int} (hc : 0 ≤ c) (a : Nat) : InC c (sat c (a : Int)) := inC_sat hc (by omega)

/-- zzSatAdd -/
theorem satAdd_q {a b c : Int} {w : World} (ha : InC c a) (hb : InC c b) (hc : c ≤ 9223372036854775807) :
    Calls Try.prog 34 #[.int .i64 a, .int .i64 b, .int .i64 c] w fun e w' => e = .returned (.int .i64 (sat c (a + b))) ∧ w' = w :=
  satAdd_any a b c w ha.1 ha.2 hb.1 hb.2 hc

set_option maxHeartbeats 400000 in
/-- (*stepBound).add -/
theorem add_q {S : Nat} {lim a b : Int} {w : World} (hc2 : w.cell? ⟨S, 2, none⟩ = some (.int .i64 lim)) (ha : InC (lim + 1) a) (hb : InC (lim + 1) b) (h0 : 0 ≤ lim) (hc : lim + 1 ≤ 9223372036854775807) :
    Calls Try.prog 43 #[.pointer (some ⟨S, 0, none⟩), .int .i64 a, .int .i64 b] w fun e w' => e = .returned (.int .i64 (sat (lim + 1) (a + b))) ∧ w' = w := by
  obtain ⟨a0, a1⟩ := ha
  obtain ⟨b0, b1⟩ := hb
  by_cases h : lim + 1 - b < a
  · go_enter Try.func43, Try.ntmps43
    go_wp2
    go_ret
    exact ⟨ret_int (by unfold sat; rw [if_pos (by omega)]), rfl⟩
  · go_enter Try.func43, Try.ntmps43
    go_wp2
    go_ret
    exact ⟨ret_int (by unfold sat; rw [if_neg (by omega)]), rfl⟩

end Go.Proofs.Qxb6003663a
