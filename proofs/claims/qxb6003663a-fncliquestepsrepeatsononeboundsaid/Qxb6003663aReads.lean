import Derived.Test.Qxb6003663aBase
namespace Go.Proofs.Qxb6003663a
open Go.RowKit
set_option linter.unusedVariables false

/-- The call answers a bool and changes nothing; if it is true, p holds. -/
def Says (w : World) (p : Prop) (e : Ending) (w' : World) : Prop := ∃ t, e = .returned (.bool t) ∧ w = w' ∧ (t = true → p)
theorem says_false (w : World) (p : Prop) : Says w p (.returned (.bool false)) w := ⟨false, rfl, rfl, fun h => by cases h⟩
theorem says_true (w : World) {p : Prop} (h : p) : Says w p (.returned (.bool true)) w := ⟨true, rfl, rfl, fun _ => h⟩

def Fits (E : List (List Int)) : Prop := 24 * E.length + 4 * tot E ≤ 1048576

set_option maxHeartbeats 400000 in
theorem fit_pos (E : List (List Int)) (w : World) (lo hi b off cap : Nat) (hc : E.length ≤ cap) (hm : cap ≤ maxLen)
    (hrow : ∀ i, i < E.length → ∃ u, w.cell? ⟨b, off + i, none⟩ = some u ∧ Ids w lo hi u (E.getD i [])) :
    Calls Try.prog 10 #[.slice (some ⟨b, off, none⟩) E.length cap] w (Says w (Fits E)) := by
  unfold maxLen at hm
  obtain ⟨A, C, hAC⟩ := Grid.cells hrow
  clear hrow
  by_cases h1 : E.length ≤ 65536
  · by_cases h2 : 24 * E.length ≤ 1048576
    · go_enter Try.func10, Try.ntmps10
      go_wp2
      go_loop [3, 4] (fun t i => ∃ k : Nat, k ≤ E.length ∧ i = .int .i64 k ∧ t = .int .i64 ((24 * E.length + 4 * tot (E.take k) : Nat) : Int) ∧ 24 * E.length + 4 * tot (E.take k) ≤ 1048576) (fun _ i => E.length - (intOf i).toNat)
      case atStart => exact ⟨0, Nat.zero_le _, rfl, by simp [tot], by simp [tot]; omega⟩
      case round =>
        obtain ⟨k, hk, rfl, rfl, hb⟩ := hrel
        by_cases hlt : k < E.length
        · have hcell := (hAC k hlt).1
          have hts := tot_take_succ E k hlt
          obtain ⟨L, hL⟩ : ∃ L, L = (E.getD k []).length := ⟨_, rfl⟩
          rw [← hL] at hcell hts
          have HT : Hid (tot (E.take (k + 1)) = tot (E.take k) + L) := hts
          clear hts hAC hL
          go_wp2
          · go_ret; exact says_false _ _
          · go_ret; exact says_false _ _
          · go_round
            case rel => exact ⟨k + 1, by omega, by go_num, by rw [HT.out]; go_num, by rw [HT.out]; omega⟩
            case measure => simp [intOf]; omega
        · clear hAC
          go_wp2
          go_ret
          refine says_true _ ?_
          rw [List.take_of_length_le (by omega)] at hb
          exact hb
    · clear hAC
      go_enter Try.func10, Try.ntmps10
      go_wp2
      go_ret; exact says_false _ _
  · clear hAC
    go_enter Try.func10, Try.ntmps10
    go_wp2
    go_ret; exact says_false _ _

set_option maxHeartbeats 400000 in
theorem fit_zero (w : World) (ao : Option Addr) (cap : Nat) :
    Calls Try.prog 10 #[.slice ao 0 cap] w (Says w (Fits [])) := by
  go_enter Try.func10, Try.ntmps10
  go_wp2
  refine wp_loop_rounds 1 ?_
  rw [rounds_succ]
  go_wp2
  go_ret
  exact says_true _ (by simp [Fits, tot])

theorem fit_any {E : List (List Int)} {w : World} {lo hi : Nat} {v : Value} (h : Grid w lo hi v E) : Calls Try.prog 10 #[v] w (Says w (Fits E)) := by
  obtain ⟨ao, cap, rfl, h2, h3, h4⟩ := h
  rcases h4 with rfl | ⟨b, off, rfl, h6, h7, h8⟩
  · exact fit_zero w ao cap
  · exact fit_pos E w lo hi b off cap h2 h3 h8

set_option maxHeartbeats 400000 in
theorem bytes27_pos (E : List (List Int)) (w : World) (lo hi b off cap : Nat) (hc : E.length ≤ cap) (hm : cap ≤ maxLen) (lim r : Int) (bk : Bool)
    (hrow : ∀ i, i < E.length → ∃ u, w.cell? ⟨b, off + i, none⟩ = some u ∧ Ids w lo hi u (E.getD i [])) :
    Calls Try.prog 27 #[.slice (some ⟨b, off, none⟩) E.length cap, .int .i64 lim, .int .i32 r, .bool bk] w (Says w True) := by
  unfold maxLen at hm
  obtain ⟨A, C, hAC⟩ := Grid.cells hrow
  clear hrow
  by_cases h1 : E.length ≤ 1048576
  · go_enter Try.func27, Try.ntmps27
    go_wp2
    go_loop [9, 10] (fun t i => ∃ k : Nat, k ≤ E.length ∧ i = .int .i64 k ∧ ∃ m : Nat, t = .int .i64 m ∧ m ≤ 1048576) (fun _ i => E.length - (intOf i).toNat)
    case atStart => exact ⟨0, Nat.zero_le _, rfl, E.length, rfl, h1⟩
    case round =>
      obtain ⟨k, hk, rfl, m, rfl, hb⟩ := hrel
      by_cases hlt : k < E.length
      · have hcell := (hAC k hlt).1
        obtain ⟨L, hL⟩ : ∃ L, L = (E.getD k []).length := ⟨_, rfl⟩
        rw [← hL] at hcell
        clear hAC hL
        go_wp2
        · go_ret; exact says_false _ _
        · go_ret; exact says_false _ _
        · go_round
          case rel => exact ⟨k + 1, by omega, by go_num, m + L, by go_num, by omega⟩
          case measure => simp [intOf]; omega
      · clear hAC
        go_wp2
        go_ret
        exact says_true _ trivial
  · clear hAC
    go_enter Try.func27, Try.ntmps27
    go_wp2
    go_ret; exact says_false _ _

set_option maxHeartbeats 400000 in
theorem bytes27_zero (w : World) (ao : Option Addr) (cap : Nat) (lim r : Int) (bk : Bool) :
    Calls Try.prog 27 #[.slice ao 0 cap, .int .i64 lim, .int .i32 r, .bool bk] w (Says w True) := by
  go_enter Try.func27, Try.ntmps27
  go_wp2
  refine wp_loop_rounds 1 ?_
  rw [rounds_succ]
  go_wp2
  go_ret
  exact says_true _ trivial

theorem bytes27_any {E : List (List Int)} {w : World} {lo hi : Nat} {v : Value} (h : Grid w lo hi v E) (lim r : Int) (bk : Bool) : Calls Try.prog 27 #[v, .int .i64 lim, .int .i32 r, .bool bk] w (Says w True) := by
  obtain ⟨ao, cap, rfl, h2, h3, h4⟩ := h
  rcases h4 with rfl | ⟨b, off, rfl, h6, h7, h8⟩
  · exact bytes27_zero w ao cap _ _ _
  · exact bytes27_pos E w lo hi b off cap h2 h3 _ _ _ h8

set_option maxHeartbeats 400000 in
theorem bytes30_pos (E : List (List Int)) (w : World) (lo hi b off cap : Nat) (hc : E.length ≤ cap) (hm : cap ≤ maxLen) (lim r : Int) (bk : Bool) (r2 : Int) (bk2 : Bool)
    (hrow : ∀ i, i < E.length → ∃ u, w.cell? ⟨b, off + i, none⟩ = some u ∧ Ids w lo hi u (E.getD i [])) :
    Calls Try.prog 30 #[.slice (some ⟨b, off, none⟩) E.length cap, .int .i64 lim, .int .i32 r, .bool bk, .int .i32 r2, .bool bk2] w (Says w True) := by
  unfold maxLen at hm
  obtain ⟨A, C, hAC⟩ := Grid.cells hrow
  clear hrow
  by_cases h1 : E.length ≤ 1048576
  · go_enter Try.func30, Try.ntmps30
    go_wp2
    go_loop [13, 14] (fun t i => ∃ k : Nat, k ≤ E.length ∧ i = .int .i64 k ∧ ∃ m : Nat, t = .int .i64 m ∧ m ≤ 1048576) (fun _ i => E.length - (intOf i).toNat)
    case atStart => exact ⟨0, Nat.zero_le _, rfl, E.length, rfl, h1⟩
    case round =>
      obtain ⟨k, hk, rfl, m, rfl, hb⟩ := hrel
      by_cases hlt : k < E.length
      · have hcell := (hAC k hlt).1
        obtain ⟨L, hL⟩ : ∃ L, L = (E.getD k []).length := ⟨_, rfl⟩
        rw [← hL] at hcell
        clear hAC hL
        go_wp2
        · go_ret; exact says_false _ _
        · go_ret; exact says_false _ _
        · go_round
          case rel => exact ⟨k + 1, by omega, by go_num, m + L, by go_num, by omega⟩
          case measure => simp [intOf]; omega
      · clear hAC
        go_wp2
        go_ret
        exact says_true _ trivial
  · clear hAC
    go_enter Try.func30, Try.ntmps30
    go_wp2
    go_ret; exact says_false _ _

set_option maxHeartbeats 400000 in
theorem bytes30_zero (w : World) (ao : Option Addr) (cap : Nat) (lim r : Int) (bk : Bool) (r2 : Int) (bk2 : Bool) :
    Calls Try.prog 30 #[.slice ao 0 cap, .int .i64 lim, .int .i32 r, .bool bk, .int .i32 r2, .bool bk2] w (Says w True) := by
  go_enter Try.func30, Try.ntmps30
  go_wp2
  refine wp_loop_rounds 1 ?_
  rw [rounds_succ]
  go_wp2
  go_ret
  exact says_true _ trivial

theorem bytes30_any {E : List (List Int)} {w : World} {lo hi : Nat} {v : Value} (h : Grid w lo hi v E) (lim r : Int) (bk : Bool) (r2 : Int) (bk2 : Bool) : Calls Try.prog 30 #[v, .int .i64 lim, .int .i32 r, .bool bk, .int .i32 r2, .bool bk2] w (Says w True) := by
  obtain ⟨ao, cap, rfl, h2, h3, h4⟩ := h
  rcases h4 with rfl | ⟨b, off, rfl, h6, h7, h8⟩
  · exact bytes30_zero w ao cap _ _ _ _ _
  · exact bytes30_pos E w lo hi b off cap h2 h3 _ _ _ _ _ h8

set_option maxHeartbeats 400000 in
theorem bytes9_pos (E : List (List Int)) (w : World) (lo hi b off cap : Nat) (hc : E.length ≤ cap) (hm : cap ≤ maxLen) (lim r : Int)
    (hrow : ∀ i, i < E.length → ∃ u, w.cell? ⟨b, off + i, none⟩ = some u ∧ Ids w lo hi u (E.getD i [])) :
    Calls Try.prog 9 #[.slice (some ⟨b, off, none⟩) E.length cap, .int .i64 lim, .int .i32 r] w (Says w True) := by
  unfold maxLen at hm
  obtain ⟨A, C, hAC⟩ := Grid.cells hrow
  clear hrow
  by_cases h1 : E.length ≤ 1048576
  · go_enter Try.func9, Try.ntmps9
    go_wp2
    go_loop [7, 8] (fun t i => ∃ k : Nat, k ≤ E.length ∧ i = .int .i64 k ∧ ∃ m : Nat, t = .int .i64 m ∧ m ≤ 1048576) (fun _ i => E.length - (intOf i).toNat)
    case atStart => exact ⟨0, Nat.zero_le _, rfl, E.length, rfl, h1⟩
    case round =>
      obtain ⟨k, hk, rfl, m, rfl, hb⟩ := hrel
      by_cases hlt : k < E.length
      · have hcell := (hAC k hlt).1
        obtain ⟨L, hL⟩ : ∃ L, L = (E.getD k []).length := ⟨_, rfl⟩
        rw [← hL] at hcell
        clear hAC hL
        go_wp2
        · go_ret; exact says_false _ _
        · go_ret; exact says_false _ _
        · go_round
          case rel => exact ⟨k + 1, by omega, by go_num, m + L, by go_num, by omega⟩
          case measure => simp [intOf]; omega
      · clear hAC
        go_wp2
        go_ret
        exact says_true _ trivial
  · clear hAC
    go_enter Try.func9, Try.ntmps9
    go_wp2
    go_ret; exact says_false _ _

set_option maxHeartbeats 400000 in
theorem bytes9_zero (w : World) (ao : Option Addr) (cap : Nat) (lim r : Int) :
    Calls Try.prog 9 #[.slice ao 0 cap, .int .i64 lim, .int .i32 r] w (Says w True) := by
  go_enter Try.func9, Try.ntmps9
  go_wp2
  refine wp_loop_rounds 1 ?_
  rw [rounds_succ]
  go_wp2
  go_ret
  exact says_true _ trivial

theorem bytes9_any {E : List (List Int)} {w : World} {lo hi : Nat} {v : Value} (h : Grid w lo hi v E) (lim r : Int) : Calls Try.prog 9 #[v, .int .i64 lim, .int .i32 r] w (Says w True) := by
  obtain ⟨ao, cap, rfl, h2, h3, h4⟩ := h
  rcases h4 with rfl | ⟨b, off, rfl, h6, h7, h8⟩
  · exact bytes9_zero w ao cap _ _
  · exact bytes9_pos E w lo hi b off cap h2 h3 _ _ h8

set_option maxHeartbeats 400000 in
theorem bytes18_pos (E : List (List Int)) (w : World) (lo hi b off cap : Nat) (hc : E.length ≤ cap) (hm : cap ≤ maxLen) (lim r r2 : Int)
    (hrow : ∀ i, i < E.length → ∃ u, w.cell? ⟨b, off + i, none⟩ = some u ∧ Ids w lo hi u (E.getD i [])) :
    Calls Try.prog 18 #[.slice (some ⟨b, off, none⟩) E.length cap, .int .i64 lim, .int .i32 r, .int .i32 r2] w (Says w True) := by
  unfold maxLen at hm
  obtain ⟨A, C, hAC⟩ := Grid.cells hrow
  clear hrow
  by_cases h1 : E.length ≤ 1048576
  · go_enter Try.func18, Try.ntmps18
    go_wp2
    go_loop [9, 10] (fun t i => ∃ k : Nat, k ≤ E.length ∧ i = .int .i64 k ∧ ∃ m : Nat, t = .int .i64 m ∧ m ≤ 1048576) (fun _ i => E.length - (intOf i).toNat)
    case atStart => exact ⟨0, Nat.zero_le _, rfl, E.length, rfl, h1⟩
    case round =>
      obtain ⟨k, hk, rfl, m, rfl, hb⟩ := hrel
      by_cases hlt : k < E.length
      · have hcell := (hAC k hlt).1
        obtain ⟨L, hL⟩ : ∃ L, L = (E.getD k []).length := ⟨_, rfl⟩
        rw [← hL] at hcell
        clear hAC hL
        go_wp2
        · go_ret; exact says_false _ _
        · go_ret; exact says_false _ _
        · go_round
          case rel => exact ⟨k + 1, by omega, by go_num, m + L, by go_num, by omega⟩
          case measure => simp [intOf]; omega
      · clear hAC
        go_wp2
        go_ret
        exact says_true _ trivial
  · clear hAC
    go_enter Try.func18, Try.ntmps18
    go_wp2
    go_ret; exact says_false _ _

set_option maxHeartbeats 400000 in
theorem bytes18_zero (w : World) (ao : Option Addr) (cap : Nat) (lim r r2 : Int) :
    Calls Try.prog 18 #[.slice ao 0 cap, .int .i64 lim, .int .i32 r, .int .i32 r2] w (Says w True) := by
  go_enter Try.func18, Try.ntmps18
  go_wp2
  refine wp_loop_rounds 1 ?_
  rw [rounds_succ]
  go_wp2
  go_ret
  exact says_true _ trivial

theorem bytes18_any {E : List (List Int)} {w : World} {lo hi : Nat} {v : Value} (h : Grid w lo hi v E) (lim r r2 : Int) : Calls Try.prog 18 #[v, .int .i64 lim, .int .i32 r, .int .i32 r2] w (Says w True) := by
  obtain ⟨ao, cap, rfl, h2, h3, h4⟩ := h
  rcases h4 with rfl | ⟨b, off, rfl, h6, h7, h8⟩
  · exact bytes18_zero w ao cap _ _ _
  · exact bytes18_pos E w lo hi b off cap h2 h3 _ _ _ h8

end Go.Proofs.Qxb6003663a
