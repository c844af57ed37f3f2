import Derived.Test.Qxb6003663aCSteps
import Derived.Test.Qxb6003663aCModel
namespace Go.Proofs.Qxb6003663a
open Go.RowKit
set_option linter.unusedVariables false
set_option linter.unusedSimpArgs false

/-- zzCliqueStepsModel_b1 at the greedy clique's size -/
theorem cmodel_both {w : World} {lo hi b lo2 hi2 b2 n : Nat} {G H : List (List Nat)} (h : Both w lo hi b lo2 hi2 b2 n G H) (r : Nat) (lim : Int) (w1 : World) (h0 : 0 ≤ lim) (h1 : lim + 1 ≤ 9223372036854775807) :
    Calls Try.prog 16 #[.int .i64 ((cliq G r : Nat) : Int), .int .i64 lim] w1 (fun e w' => e = .returned (.int .i64 (cans G lim r)) ∧ Below w1.heap.size w1 w') :=
  cmodel_any (cliq G r) lim w1 (h.cliq r).1 (h.cliq r).2 h0 h1

set_option maxRecDepth 100000 in
set_option maxHeartbeats 4000000 in
theorem law3 {E : List (List Int)} {w : World} {v : Value} (h : Grid w 0 w.heap.size v E) (lim r : Int) (l1 : -9223372036854775808 ≤ lim) (l2 : lim ≤ 9223372036854775807) (r1 : -2147483648 ≤ r) (r2 : r ≤ 2147483647) :
    Calls Try.prog 3 #[v, .int .i64 lim, .int .i32 r] w fun e w' => e = .returned (.bool true) ∧ Below w.heap.size w w' := by
  have f1 := bytes9_any h lim r
  have f2 := fit_any h
  obtain ⟨ao, cap, rfl, h2, h3, h4⟩ := h
  unfold maxLen at h3
  go_enter Try.func3, Try.ntmps3
  go_wp2_with fail
  refine f1.mono ?_
  intro e w1 hp
  obtain ⟨t, rfl, rfl, z⟩ := hp
  clear f1 z
  cases t with
  | false =>
    clear f2 h4
    go_wp2_with fail
    go_ret
    exact ⟨rfl, Below.refl _ _⟩
  | true =>
  go_wp2_with fail
  refine f2.mono ?_
  intro e w1 hp
  obtain ⟨t, rfl, rfl, hfit⟩ := hp
  clear f2
  cases t with
  | false =>
    clear h4
    go_wp2_with fail
    go_ret
    exact ⟨rfl, Below.refl _ _⟩
  | true =>
  have HF := hid (hfit rfl)
  clear hfit
  by_cases a1 : lim < 0
  · clear h4
    go_wp2_with fail
    go_ret
    exact ⟨rfl, Below.refl _ _⟩
  by_cases a2 : lim < 9223372036854775807
  · have e2 : (lim == 9223372036854775807) = false := by rw [beq_eq_false_iff_ne]; omega
    by_cases a3 : r < 0
    · clear h4
      go_wp2_with fail
      go_ret
      exact ⟨rfl, Below.refl _ _⟩
    by_cases a4 : r < E.length
    · obtain ⟨rn, rfl⟩ : ∃ rn : Nat, r = rn := ⟨r.toNat, by omega⟩
      have a5 : rn < E.length := by omega
      rcases h4 with h4 | ⟨b, off, hao, h6, h7, h8⟩
      · subst h4; simp at a5
      subst hao
      have f3 := ids_pos E w 0 w.heap.size b off cap h2 (by unfold maxLen; omega) h8
      have H8 := hid h8
      clear h8
      go_wp2_with fail
      refine f3.mono ?_
      intro e w1 hp
      obtain ⟨t, rfl, rfl, hin⟩ := hp
      clear f3
      cases t with
      | false =>
        go_wp2_with fail
        go_ret
        exact ⟨rfl, Below.refl _ _⟩
      | true =>
      have HIN := hid (hin rfl)
      clear hin
      have f3b := self_pos E w 0 w.heap.size b off cap h2 (by unfold maxLen; omega) H8.out
      go_wp2_with fail
      refine f3b.mono ?_
      intro e w1 hp
      obtain ⟨t, rfl, rfl, hno⟩ := hp
      clear f3b
      cases t with
      | false =>
        go_wp2_with fail
        go_ret
        exact ⟨rfl, Below.refl _ _⟩
      | true =>
      have HNO := hid (noSelf_of HIN.out (hno rfl))
      clear hno
      have hF := HF.out
      unfold Fits at hF
      have f4 := copy_any E w 0 w.heap.size b off cap h2 (by unfold maxLen; omega) (by omega) HF.out HIN.out (Nat.le_refl _) h7 H8.out
      clear hF
      go_wp2_with fail
      refine f4.mono ?_
      intro e w1 hp
      obtain ⟨rfl, hcp⟩ := hp
      have hC := cpd_of hcp HF.out (by omega)
      have f5 := rev_both hC (by rw [totN_toG]; have := HF.out; unfold Fits at this; omega) HNO.out
      have HB1 := hid (copied hcp (by have := HF.out; unfold Fits at this; unfold maxLen; omega)).2
      clear f4 hcp hC
      go_wp2_with fail
      refine f5.mono ?_
      intro e w2 hp
      obtain ⟨H, rfl, hb2, hBo⟩ := hp
      have HB2 := hid (HB1.out.trans (hb2.mono HB1.out.size))
      have f6 := csteps_any hBo lim rn a5 (by omega) (by omega)
      have HBO := hid hBo
      clear f5 hb2 hBo HB1
      go_wp2_with fail
      refine f6.mono ?_
      intro e w3 hp
      obtain ⟨rfl, hb3⟩ := hp
      have hBo := HBO.out.keep hb3
      have HB3 := hid (HB2.out.trans (hb3.mono HB2.out.size))
      have f7 := greedy_both hBo rn a5
      have HBO3 := hid hBo
      clear f6 hb3 hBo HB2 HBO
      go_wp2_with fail
      refine f7.mono ?_
      intro e w4 hp
      obtain ⟨rfl, hb4⟩ := hp
      have hBo := HBO3.out.keep hb4
      have f8 := cmodel_both hBo rn lim w4 (by omega) (by omega)
      have HBO4 := hid hBo
      have HB4 := hid (HB3.out.trans (hb4.mono HB3.out.size))
      clear f7 hb4 hBo HB3 HBO3
      go_wp2_with fail
      refine f8.mono ?_
      intro e w5 hp
      obtain ⟨rfl, hb5⟩ := hp
      have R := hid (HB4.out.trans (hb5.mono HB4.out.size))
      obtain ⟨x, hx⟩ : ∃ x, x = cans (toG E) lim rn := ⟨_, rfl⟩
      rw [← hx]
      clear f8 hb5 hx HBO4 HB4
      go_wp2_with fail
      go_ret
      exact ⟨by simp, R.out⟩
    · have a4' : (E.length : Int) ≤ r := by omega
      clear h4
      go_wp2_with fail
      go_ret
      exact ⟨rfl, Below.refl _ _⟩
  · have e2 : (lim == 9223372036854775807) = true := by rw [beq_iff_eq]; omega
    clear h4
    go_wp2_with fail
    go_ret
    exact ⟨rfl, Below.refl _ _⟩

end Go.Proofs.Qxb6003663a
