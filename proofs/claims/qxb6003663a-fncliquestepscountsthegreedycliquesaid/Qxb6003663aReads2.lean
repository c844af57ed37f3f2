import Derived.Test.Qxb6003663aReads
namespace Go.Proofs.Qxb6003663a
open Go.RowKit
set_option linter.unusedVariables false

/-- every id of every row is one of 0 .. n - 1 -/
def InR (n : Nat) (l : List Int) : Prop := ∀ j, j < l.length → 0 ≤ l.getD j 0 ∧ l.getD j 0 < n
def AllIn (n : Nat) (E : List (List Int)) : Prop := ∀ i, i < E.length → InR n (E.getD i [])

set_option maxHeartbeats 1000000 in
theorem ids_pos (E : List (List Int)) (w : World) (lo hi b off cap : Nat) (hc : E.length ≤ cap) (hm : cap ≤ maxLen)
    (hrow : ∀ i, i < E.length → ∃ u, w.cell? ⟨b, off + i, none⟩ = some u ∧ Ids w lo hi u (E.getD i [])) :
    Calls Try.prog 11 #[.slice (some ⟨b, off, none⟩) E.length cap] w (Says w (AllIn E.length E)) := by
  unfold maxLen at hm
  go_enter Try.func11, Try.ntmps11
  go_wp2
  go_loop [4] (fun i => ∃ k : Nat, k ≤ E.length ∧ i = .int .i64 k ∧ ∀ t, t < k → InR E.length (E.getD t [])) (fun i => E.length - (intOf i).toNat)
  case atStart => exact ⟨0, Nat.zero_le _, rfl, fun t ht => absurd ht (by omega)⟩
  case round =>
    obtain ⟨k, hk, rfl, hin⟩ := hrel
    by_cases hlt : k < E.length
    · obtain ⟨u, hu, hid⟩ := hrow k hlt
      obtain ⟨l, hl⟩ : ∃ l, l = E.getD k [] := ⟨_, rfl⟩
      rw [← hl] at hid
      have HL : Hid (l = E.getD k []) := hl
      have HI : Hid (∀ t, t < k → InR E.length (E.getD t [])) := hin
      clear hl hin hrow
      obtain ⟨ao, cap', rfl, h2, h3, h32, h4⟩ := hid
      unfold maxLen at h3
      rcases h4 with rfl | ⟨b', off', rfl, h6, h7, h8⟩
      · go_wp2
        refine wp_loop_rounds 1 ?_
        rw [rounds_succ]
        go_wp2
        go_round
        case rel => exact ⟨k + 1, by omega, by go_num, fun t ht => by
            by_cases e : t = k
            · subst e; rw [← HL.out]; intro j hj; simp at hj
            · exact HI.out t (by omega)⟩
        case measure => simp [intOf]; omega
      · go_wp2
        go_loop [19] (fun i => ∃ j : Nat, j ≤ l.length ∧ i = .int .i64 j ∧ ∀ t, t < j → 0 ≤ l.getD t 0 ∧ l.getD t 0 < E.length) (fun i => l.length - (intOf i).toNat)
        case atStart => exact ⟨0, Nat.zero_le _, rfl, fun t ht => absurd ht (by omega)⟩
        case round =>
          obtain ⟨j, hj, rfl, hjn⟩ := hrel
          by_cases hjl : j < l.length
          · have hcell := h8 j hjl
            clear h8
            obtain ⟨hx1, hx2⟩ := h32 j hjl
            obtain ⟨x, hx⟩ : ∃ x, x = l.getD j 0 := ⟨_, rfl⟩
            rw [← hx] at hcell hx1 hx2
            have HX : Hid (x = l.getD j 0) := hx
            have HJ : Hid (∀ t, t < j → 0 ≤ l.getD t 0 ∧ l.getD t 0 < E.length) := hjn
            clear hx hjn h32
            by_cases hx0 : x < 0
            · go_wp2
              go_ret; exact says_false _ _
            · by_cases hxn : x < E.length
              · go_wp2
                go_round
                case rel => exact ⟨j + 1, by omega, by go_num, fun t ht => by
                    by_cases e : t = j
                    · subst e; rw [← HX.out]; omega
                    · exact HJ.out t (by omega)⟩
                case measure => simp [intOf]; omega
              · go_wp2
                go_ret; exact says_false _ _
          · clear h8 h32
            have HJ : Hid (∀ t, t < j → 0 ≤ l.getD t 0 ∧ l.getD t 0 < E.length) := hjn
            clear hjn
            go_wp2
            go_round
            case rel => exact ⟨k + 1, by omega, by go_num, fun t ht => by
                by_cases e : t = k
                · subst e; rw [← HL.out]; intro i hi; exact HJ.out i (by omega)
                · exact HI.out t (by omega)⟩
            case measure => simp [intOf]; omega
    · go_wp2
      go_ret
      refine says_true _ ?_
      obtain rfl : k = E.length := by omega
      exact hin
end Go.Proofs.Qxb6003663a
