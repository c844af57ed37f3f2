import Derived.Test.Qxb6003663aReads2
import Derived.Test.Qxb6003663aState
namespace Go.Proofs.Qxb6003663a
open Go.RowKit
set_option linter.unusedVariables false
set_option linter.unusedSimpArgs false

/-- no id is its row's own number -/
def NoneOwn (E : List (List Int)) : Prop := ∀ i, i < E.length → ∀ j, j < (E.getD i []).length → (E.getD i []).getD j 0 ≠ (i : Int)

set_option maxHeartbeats 1000000 in
theorem self_pos (E : List (List Int)) (w : World) (lo hi b off cap : Nat) (hc : E.length ≤ cap) (hm : cap ≤ maxLen)
    (hrow : ∀ i, i < E.length → ∃ u, w.cell? ⟨b, off + i, none⟩ = some u ∧ Ids w lo hi u (E.getD i [])) :
    Calls Try.prog 12 #[.slice (some ⟨b, off, none⟩) E.length cap] w (Says w (NoneOwn E)) := by
  unfold maxLen at hm
  go_enter Try.func12, Try.ntmps12
  go_wp2
  go_loop [3] (fun i => ∃ k : Nat, k ≤ E.length ∧ i = .int .i64 k ∧ ∀ t, t < k → ∀ j, j < (E.getD t []).length → (E.getD t []).getD j 0 ≠ (t : Int)) (fun i => E.length - (intOf i).toNat)
  case atStart => exact ⟨0, Nat.zero_le _, rfl, fun t ht => absurd ht (by omega)⟩
  case round =>
    obtain ⟨k, hk, rfl, hin⟩ := hrel
    by_cases hlt : k < E.length
    · obtain ⟨u, hu, hid⟩ := hrow k hlt
      obtain ⟨l, hl⟩ : ∃ l, l = E.getD k [] := ⟨_, rfl⟩
      rw [← hl] at hid
      have HL : Hid (l = E.getD k []) := hl
      have HI : Hid (∀ t, t < k → ∀ j, j < (E.getD t []).length → (E.getD t []).getD j 0 ≠ (t : Int)) := hin
      clear hl hin hrow
      obtain ⟨ao, cap', rfl, h2, h3, h32, h4⟩ := hid
      unfold maxLen at h3
      rcases h4 with rfl | ⟨b', off', rfl, h6, h7, h8⟩
      · go_wp2
        refine wp_loop_rounds 1 ?_
        rw [rounds_succ]
        go_wp2
        go_round
        case rel => exact ⟨k + 1, by omega, by go_num, fun t ht => by
            by_cases e : t = k
            · subst e; rw [← HL.out]; intro j hj; simp at hj
            · exact HI.out t (by omega)⟩
        case measure => simp [intOf]; omega
      · go_wp2
        go_loop [17] (fun i => ∃ j : Nat, j ≤ l.length ∧ i = .int .i64 j ∧ ∀ t, t < j → l.getD t 0 ≠ (k : Int)) (fun i => l.length - (intOf i).toNat)
        case atStart => exact ⟨0, Nat.zero_le _, rfl, fun t ht => absurd ht (by omega)⟩
        case round =>
          obtain ⟨j, hj, rfl, hjn⟩ := hrel
          by_cases hjl : j < l.length
          · have hcell := h8 j hjl
            clear h8
            obtain ⟨hx1, hx2⟩ := h32 j hjl
            obtain ⟨x, hx⟩ : ∃ x, x = l.getD j 0 := ⟨_, rfl⟩
            rw [← hx] at hcell hx1 hx2
            have HX : Hid (x = l.getD j 0) := hx
            have HJ : Hid (∀ t, t < j → l.getD t 0 ≠ (k : Int)) := hjn
            clear hx hjn h32
            by_cases hxk : x = (k : Int)
            · have hq : (x == (k : Int)) = true := beq_iff_eq.2 hxk
              clear hxk
              go_wp2
              go_ret; exact says_false _ _
            · have hq : (x == (k : Int)) = false := beq_eq_false_iff_ne.2 hxk
              have HN : Hid (x ≠ (k : Int)) := hxk
              clear hxk
              go_wp2
              go_round
              case rel => exact ⟨j + 1, by omega, by go_num, fun t ht => by
                  by_cases e : t = j
                  · subst e; rw [← HX.out]; exact HN.out
                  · exact HJ.out t (by omega)⟩
              case measure => simp [intOf]; omega
          · clear h8 h32
            have HJ : Hid (∀ t, t < j → l.getD t 0 ≠ (k : Int)) := hjn
            clear hjn
            go_wp2
            go_round
            case rel => exact ⟨k + 1, by omega, by go_num, fun t ht => by
                by_cases e : t = k
                · subst e; rw [← HL.out]; intro i hi; exact HJ.out i (by omega)
                · exact HI.out t (by omega)⟩
            case measure => simp [intOf]; omega
    · go_wp2
      go_ret
      refine says_true _ ?_
      obtain rfl : k = E.length := by omega
      exact hin
end Go.Proofs.Qxb6003663a
