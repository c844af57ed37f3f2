import Derived.Test.Qxb6003663aClique
namespace Go.Proofs.Qxb6003663a
open Go.RowKit
set_option linter.unusedVariables false
set_option linter.unusedSimpArgs false

def IsQ (v : Int) (w : World) (e : Ending) (w' : World) : Prop := e = .returned (.int .i64 v) ∧ w' = w

section
variable {S k j : Nat} {lim : Int} {wx : World}
theorem ar_ff (hjl : j < k) : ((ff k j : Nat) : Int) * ((k : Int) - (j : Int)) = ((ff k (j + 1) : Nat) : Int) := by
  rw [show ff k (j + 1) = ff k j * (k - j) from rfl, Int.natCast_mul, Int.natCast_sub (by omega)]

/-- the orders of j + 1 are too many -/
theorem ar1_over {o1 b : Int} (ho : o1 = ((ff k j : Nat) : Int)) (hb : b = (k : Int) - (j : Int)) (hjl : j < k) (hk : k ≤ 1048577) (hc : wx.cell? ⟨S, 2, none⟩ = some (.int .i64 lim)) (h0 : 0 ≤ lim) (h1 : lim + 1 ≤ 9223372036854775807) (hov : lim < ((ff k (j + 1) : Nat) : Int)) :
    Calls Try.prog 42 #[.pointer (some ⟨S, 0, none⟩), .int .i64 o1, .int .i64 b] wx (IsQ (lim + 1) wx) := by
  have h := mul_q (w := wx) (a := o1) (b := b) hc (by omega) (by omega) (by omega) h0 h1
  rw [ho, hb, ar_ff hjl, sat_over _ _ (by omega)] at h
  rw [ho, hb]
  exact h
/-- they are not -/
theorem ar1_in {o1 o2 b : Int} (ho : o1 = ((ff k j : Nat) : Int)) (ho2 : o2 = ((ff k (j + 1) : Nat) : Int)) (hb : b = (k : Int) - (j : Int)) (hjl : j < k) (hk : k ≤ 1048577) (hc : wx.cell? ⟨S, 2, none⟩ = some (.int .i64 lim)) (h0 : 0 ≤ lim) (h1 : lim + 1 ≤ 9223372036854775807) (hov : o2 ≤ lim) :
    Calls Try.prog 42 #[.pointer (some ⟨S, 0, none⟩), .int .i64 o1, .int .i64 b] wx (IsQ o2 wx) := by
  have h := mul_q (w := wx) (a := o1) (b := b) hc (by omega) (by omega) (by omega) h0 h1
  rw [ho, hb, ar_ff hjl, sat_nat _ _ (by omega), ← ho2] at h
  rw [ho, hb]
  exact h
theorem ar2 {o2 a b t : Int} (ho2 : o2 = ((ff k (j + 1) : Nat) : Int)) (ha : a = o2 / ((j : Int) + 1)) (hb : b = (j : Int) + 2) (ht : t = sat (lim + 1) ((term k (j + 1) : Nat) : Int)) (hjk : j < k) (hk : k ≤ 1048577) (hc : wx.cell? ⟨S, 2, none⟩ = some (.int .i64 lim)) (h0 : 0 ≤ lim) (h1 : lim + 1 ≤ 9223372036854775807) :
    Calls Try.prog 42 #[.pointer (some ⟨S, 0, none⟩), .int .i64 a, .int .i64 b] wx (IsQ t wx) := by
  have e1 : a = ((ff k (j + 1) / (j + 1) : Nat) : Int) := by rw [ha, ho2, Int.natCast_ediv]; rfl
  have e2 : b = ((j + 2 : Nat) : Int) := by omega
  have h := mul_q (w := wx) (a := a) (b := b) hc (by rw [e1]; exact Int.natCast_nonneg _) (by omega) (by omega) h0 h1
  have e3 : a * b = ((term k (j + 1) : Nat) : Int) := by rw [e1, e2, ← Int.natCast_mul, ff_div k (j + 1) (by omega)]; rfl
  rw [e3, ← ht] at h
  exact h
theorem ar3 {a b c : Int} (ha : a = sat (lim + 1) ((upto k j : Nat) : Int)) (hb : b = sat (lim + 1) ((term k (j + 1) : Nat) : Int)) (ht : c = sat (lim + 1) ((upto k (j + 1) : Nat) : Int)) (hj : 1 ≤ j) (hc : wx.cell? ⟨S, 2, none⟩ = some (.int .i64 lim)) (h0 : 0 ≤ lim) (h1 : lim + 1 ≤ 9223372036854775807) :
    Calls Try.prog 43 #[.pointer (some ⟨S, 0, none⟩), .int .i64 a, .int .i64 b] wx (IsQ c wx) := by
  have h := add_q (w := wx) (a := a) (b := b) hc (by rw [ha]; exact inC_nat (by omega) _) (by rw [hb]; exact inC_nat (by omega) _) h0 h1
  rw [ha, hb, sat_sat (by omega), show upto k j + term k (j + 1) = upto k (j + 1) from by rw [upto_succ k (j + 1) (by omega)]; rfl, ← ht] at h
  rw [ha, hb]
  exact h
theorem ar_over (hj : 1 ≤ j) (hjl : j < k) (h : lim < ((ff k (j + 1) : Nat) : Int)) : lim + 1 = sat (lim + 1) ((upto k k : Nat) : Int) := by
  have h1 := upto_mono k (j + 1) k (by omega)
  have h2 := upto_succ k (j + 1) (by omega)
  have h3 := term_ge k (j + 1) (by omega)
  rw [sat_over _ _ (by omega)]
end

end Go.Proofs.Qxb6003663a
