import Derived.Test.Qxb6606424aRows
import Derived.WalkKit
import Derived.WalkSpells
import Derived.WalkLawsBesides
namespace Go.Proofs.Qxb6606424a
open Go.RowKit
set_option linter.unusedVariables false
set_option linter.unusedSimpArgs false

theorem and_top (x : Nat) (hx : x < 4294967296) : x &&& 4278190080 = 0 ↔ x / 16777216 = 0 := by
  constructor
  · intro h
    have h1 : (x &&& 4278190080) >>> 24 = (x >>> 24) &&& (4278190080 >>> 24) := Nat.shiftRight_and_distrib
    rw [h, Nat.zero_shiftRight, show (4278190080 : Nat) >>> 24 = 255 from rfl, nat_mask8, Nat.shiftRight_eq_div_pow] at h1
    rw [show (2 : Nat) ^ 24 = 16777216 from rfl] at h1
    omega
  · intro h
    have h1 : (x &&& 4278190080) % 2 ^ 24 = (x % 2 ^ 24) &&& (4278190080 % 2 ^ 24) := Nat.and_mod_two_pow
    rw [show (4278190080 : Nat) % 2 ^ 24 = 0 from rfl, Nat.and_zero] at h1
    have h2 : x &&& 4278190080 ≤ x := Nat.and_le_left
    rw [show (2 : Nat) ^ 24 = 16777216 from rfl] at h1
    omega

theorem xor_div (a b : Nat) : (a ^^^ b) / 16777216 = (a / 16777216) ^^^ (b / 16777216) := by
  have h : (a ^^^ b) >>> 24 = (a >>> 24) ^^^ (b >>> 24) := Nat.shiftRight_xor_distrib
  rw [Nat.shiftRight_eq_div_pow, Nat.shiftRight_eq_div_pow, Nat.shiftRight_eq_div_pow, show (2 : Nat) ^ 24 = 16777216 from rfl] at h
  exact h

theorem xor_zero_iff (a b : Nat) : a ^^^ b = 0 ↔ a = b := by
  constructor
  · intro h
    have : (a ^^^ b) ^^^ b = 0 ^^^ b := by rw [h]
    rw [Nat.xor_assoc, Nat.xor_self, Nat.xor_zero, Nat.zero_xor] at this
    exact this
  · intro h; subst h; exact Nat.xor_self a

/-- the test of the loop: the top bytes agree -/
theorem top_test (a b : Nat) (ha : a < 4294967296) (hb : b < 4294967296) : bits .and .u32 (bits .xor .u32 (a : Int) (b : Int)) 4278190080 = 0 ↔ a / 16777216 = b / 16777216 := by
  have hx : a ^^^ b < 4294967296 := Nat.xor_lt_two_pow (n := 32) ha hb
  rw [u32_xor_nat a b ha hb, show (4278190080 : Int) = ((4278190080 : Nat) : Int) from rfl, u32_and_nat _ _ hx (by omega)]
  have h1 := and_top (a ^^^ b) hx
  rw [xor_div, xor_zero_iff] at h1
  omega

theorem top_yes {a b : Nat} (ha : a < 4294967296) (hb : b < 4294967296) (h : a / 16777216 = b / 16777216) : (bits .and .u32 (bits .xor .u32 (a : Int) (b : Int)) 4278190080 == 0) = true := by
  rw [beq_iff_eq]; exact (top_test a b ha hb).2 h
theorem top_no {a b : Nat} (ha : a < 4294967296) (hb : b < 4294967296) (h : ¬ a / 16777216 = b / 16777216) : (bits .and .u32 (bits .xor .u32 (a : Int) (b : Int)) 4278190080 == 0) = false := by
  rw [beq_eq_false_iff_ne]; exact fun e => h ((top_test a b ha hb).1 e)

/-- x<<8 | 0xff -/
theorem or_255 (y : Nat) (hy : y % 256 = 0) (hl : y < 4294967296) : bits .or .u32 (y : Int) 255 = ((y + 255 : Nat) : Int) := by
  rw [show (255 : Int) = ((255 : Nat) : Int) from rfl, u32_or_nat _ _ hl (by omega), nat_join 8 y 255 hy (by omega)]

/-- one turn of the loop: the interval widens by a byte -/
theorem widen {lo hi : Nat} (h1 : lo ≤ hi) (h2 : hi < 4294967296) (ht : lo / 16777216 = hi / 16777216) :
    (lo * 256 % 4294967296) ≤ (hi * 256 % 4294967296 + 255) ∧ hi * 256 % 4294967296 + 255 < 4294967296 ∧ (hi * 256 % 4294967296 + 255) - (lo * 256 % 4294967296) + 1 = 256 * (hi - lo + 1) := by
  omega

end Go.Proofs.Qxb6606424a
