import Derived.Test.Qxb6003663aBase
import Derived.ProofKit
import Derived.OpenShut
import Derived.ChangeOld
import Derived.Deep.Matrix
namespace Go.Proofs.Qxb6003663a
open Go.RowKit
set_option linter.unusedVariables false
set_option linter.unusedSimpArgs false

theorem addr_of {w : World} {a : Addr} {v : Value} (h : w.cell? (a.add 0) = some v) : ∃ b off, a = ⟨b, off, none⟩ ∧ b < w.heap.size := by
  obtain ⟨b, off, spot⟩ := a
  have hspot : spot = none := by simpa [Addr.add] using World.cell?_spot h
  subst hspot
  exact ⟨b, off, rfl, by have := World.block_lt_of_cell? _ _ h; simpa [Addr.add] using this⟩

theorem wf32 {n : Int} (h : (Lit.int .i32 n).wf = true) : -2147483648 ≤ n ∧ n ≤ 2147483647 := by
  have := bounds_i32 h
  omega

/-- what came in as [][]int32, as a list of lists -/
theorem grid_open {w : World} {a : Addr} {len cap : Nat} {A : Nat → Option Addr} {L C : Nat → Nat} {Z : Nat → List Int} (hl : len ≤ cap) (hm : cap ≤ maxLen)
    (h : ∀ r, r < cap → w.cell? (a.add r) = some (.slice (A r) (L r) (C r)) ∧ L r ≤ C r ∧ C r ≤ maxLen ∧ (Z r).length = C r ∧ (∀ n ∈ Z r, (Lit.int .i32 n).wf = true) ∧ (A r = none → C r = 0) ∧
        ∀ a', A r = some a' → 0 ≤ a'.block ∧ ∀ c, c < C r → w.cell? (a'.add c) = some (.int .i32 ((Z r).getD c 0))) :
    Grid w 0 w.heap.size (.slice (some a) len cap) ((List.range len).map fun r => (Z r).take (L r)) := by
  refine ⟨some a, cap, by simp, by simpa using hl, hm, ?_⟩
  cases len with
  | zero => left; rfl
  | succ len =>
    right
    obtain ⟨b, off, rfl, hb⟩ := addr_of (h 0 (by omega)).1
    refine ⟨b, off, rfl, Nat.zero_le _, hb, fun i hi => ?_⟩
    simp only [List.length_map, List.length_range] at hi
    obtain ⟨h1, h2, h3, h4, h5, h6, h7⟩ := h i (by omega)
    rw [Addr.add_lit] at h1
    refine ⟨_, h1, ?_⟩
    have e : ((List.range (len + 1)).map fun r => (Z r).take (L r)).getD i [] = (Z i).take (L i) := by simp [List.getD_eq_getElem?_getD, hi]
    rw [e]
    have hlen : ((Z i).take (L i)).length = L i := by rw [List.length_take, h4]; omega
    refine ⟨A i, C i, by rw [hlen], by rw [hlen]; exact h2, h3, fun j hj => ?_, ?_⟩
    · rw [hlen] at hj
      have hj' : j < (Z i).length := by omega
      have e2 : ((Z i).take (L i)).getD j 0 = (Z i)[j] := by simp [List.getD_eq_getElem?_getD, List.getElem?_take, hj, hj']
      rw [e2]
      exact wf32 (h5 _ (List.getElem_mem hj'))
    · cases hA : A i with
      | none => left; have := h6 hA; exact List.eq_nil_of_length_eq_zero (by rw [hlen]; omega)
      | some a' =>
        obtain ⟨_, h8⟩ := h7 a' hA
        rcases Nat.eq_zero_or_pos (L i) with h0 | h0
        · left; exact List.eq_nil_of_length_eq_zero (by rw [hlen]; omega)
        · right
          obtain ⟨b', off', rfl, hb'⟩ := addr_of (h8 0 (by omega))
          refine ⟨b', off', rfl, Nat.zero_le _, hb', fun j hj => ?_⟩
          rw [hlen] at hj
          have := h8 j (by omega)
          rw [Addr.add_lit] at this
          rw [this]
          have hj' : j < (Z i).length := by omega
          simp [List.getD_eq_getElem?_getD, List.getElem?_take, hj]

theorem grid_nil (w : World) : Grid w 0 w.heap.size (.slice none 0 0) [] := ⟨none, 0, rfl, Nat.le_refl _, Nat.zero_le _, .inl rfl⟩

end Go.Proofs.Qxb6003663a
